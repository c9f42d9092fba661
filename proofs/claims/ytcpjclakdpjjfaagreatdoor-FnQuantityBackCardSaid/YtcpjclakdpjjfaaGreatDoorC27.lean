/- The suffixer's maps: the first suffix is added (resource/suffix. -/
import Derived.Test.YtcpjclakdpjjfaaGreatDoorC26
import Derived.LaidEqlPtr
set_option maxHeartbeats 4000000
set_option maxRecDepth 20000
namespace Go.Proofs.YtcpjclakdpjjfaaGreatDoor
open Go.RowKit Wd
theorem mk158 (w:World):(Instr.makeMap 158 none).run Tryz.prog w=.ok (.map (some w.heap.size)) (w.alloc (.map #[] 0)):=by kernel_rfl
theorem mk159 (w:World):(Instr.makeMap 159 none).run Tryz.prog w=.ok (.map (some w.heap.size)) (w.alloc (.map #[] 0)):=by kernel_rfl
theorem mk160 (w:World):(Instr.makeMap 160 none).run Tryz.prog w=.ok (.map (some w.heap.size)) (w.alloc (.map #[] 0)):=by kernel_rfl
theorem stage {W:World} {b:Nat} {cs:Array Value} (hd:Hd W b 164 cs) (j:Nat):
 Hd ((W.alloc (.map #[] 0)).setCell ⟨b,j,none⟩ (.map (some W.heap.size))) b 164 (cs.setIfInBounds j (.map (some W.heap.size)))∧(∀kt,MB ((W.alloc (.map #[] 0)).setCell ⟨b,j,none⟩ (.map (some W.heap.size))) kt W.heap.size (fun _=>none))∧Mod [b] W ((W.alloc (.map #[] 0)).setCell ⟨b,j,none⟩ (.map (some W.heap.size)))∧W.heap.size<((W.alloc (.map #[] 0)).setCell ⟨b,j,none⟩ (.map (some W.heap.size))).heap.size:=by
 have hlt:=hd.lt
 have m:Mod [b] (W.alloc (.map #[] 0)) ((W.alloc (.map #[] 0)).setCell ⟨b,j,none⟩ (.map (some W.heap.size))):=(Mod.refl [b] _).setCell _ (.inl (by simp))
 have mb:∀kt,MB ((W.alloc (.map #[] 0)).setCell ⟨b,j,none⟩ (.map (some W.heap.size))) kt W.heap.size (fun _=>none):=fun kt=>(MB.new W kt).mod m (by simp;omega)
 exact⟨(hd.mod ((Mod.refl [] W).alloc _) (by simp)).set j _,mb,((Mod.refl [b] W).alloc _).trans m,(mb 0).lt⟩
theorem add_first (b o:Nat) (s:ByteArray) (x y:Int) (kx:∃l,keyOf Tryz.prog 167 (.agg #[.int .i32 x,.int .i32 y])=some l) (hs:s.size≤maxLen) (w:World) (cs:Array Value) (hd:Hd w b 164 cs) (h1:cs[o]?=some (.map none)) (h2:cs[o+1]?=some (.map none)) (h3:cs[o+2]?=some (.map none)):
 Calls Tryz.prog 101 #[.pointer (some ⟨b,o,none⟩),.string s,.agg #[.int .i32 x,.int .i32 y]] w fun e w'=>e=.returned (.tuple #[])∧∃r1 r2 r3,Mod [b] w w'∧w.heap.size≤r1∧w.heap.size≤r2∧w.heap.size≤r3∧r2≠r1∧r3≠r1∧r3≠r2∧Hd w' b 164 (((cs.setIfInBounds o (.map (some r1))).setIfInBounds (o+1) (.map (some r2))).setIfInBounds (o+2) (.map (some r3)))∧
  MB w' 111 r1 (upd (fun _=>none) (.string s) (.agg #[.int .i32 x,.int .i32 y]))∧(∃f,MB w' 167 r2 f)∧∃V,MB w' 167 r3 (upd (fun _=>none) (.agg #[.int .i32 x,.int .i32 y]) V)∧Rb w' w.heap.size V s.data.toList:=by
 obtain⟨kl,hkl⟩:=kx
 obtain⟨ks,hks⟩:=key_text hs
 have hn:=Hd.new w 167 #[.int .i32 x,.int .i32 y]
 have a0:Mod [] w (w.alloc (.cells #[.int .i32 x,.int .i32 y] 167)):=(Mod.refl [] w).alloc _
 have hd':=hd.mod a0 (by simp)
 have hlt:=hd.lt
 have H:=Lh (Aj hn (Aj a0 (Aj hd' (Aj hlt (Aj hkl (Aj hks hs))))))
 clear hn a0 hd' hd hlt hkl hks hs
 go_enter Tryz.func101,Tryz.ntmps101
 go_upto_region 1 with fail
 obtain⟨hn,a0,hd',hlt,hkl,hks,hs⟩:=H.out
 clear H
 have hbp:b≠w.heap.size:=by omega
 generalize hW:w.heap.size=bp at*
 generalize w.alloc (.cells #[.int .i32 x,.int .i32 y] 167)=W at*
 have e1:=map_nil158
 have e2:=map_nil159
 have e3:=map_nil160
 have g1:=mk158
 have g2:=mk159
 have g3:=mk160
 have hos:o+2<cs.size:=(Array.getElem?_eq_some_iff.1 h3).1
 have c1:=hd'.cell h1
 have fb:=(hd'.mod ((Mod.refl [] W).alloc (.map #[] 0)) (by simp)).free
 have cb:=(hd'.mod ((Mod.refl [] W).alloc (.map #[] 0)) (by simp)).cell h1
 obtain⟨s1,s2,s3,s4⟩:=stage hd' o
 have H:=Lh (Aj hn (Aj a0 (Aj hlt (Aj hkl (Aj hks (Aj hs (Aj hW (Aj s1 (Aj s2 (Aj s3 s4))))))))))
 clear hn a0 hd' hlt hkl hks hs hW s1 s2 s3 s4
 go_upto_region 3 with fail
 obtain⟨hn,a0,hlt,hkl,hks,hs,hW,s1,s2,s3,s4⟩:=H.out
 clear c1 cb fb H
 have hr1:bp≤W.heap.size:=Nat.le_of_lt hn.lt
 have hnr1:bp≠W.heap.size:=Nat.ne_of_lt hn.lt
 replace hn:=hn.mod s3 (by simp;omega)
 generalize (W.alloc (.map #[] 0)).setCell ⟨b,o,none⟩ (.map (some W.heap.size))=Wa at*
 generalize W.heap.size=r1 at*
 replace s2:=s2 111
 have c2:(cs.setIfInBounds o (.map (some r1)))[o+1]?=some (.map none):=by simp[h2]
 have c1:=s1.cell c2
 have fb:=(s1.mod ((Mod.refl [] Wa).alloc (.map #[] 0)) (by simp)).free
 have cb:=(s1.mod ((Mod.refl [] Wa).alloc (.map #[] 0)) (by simp)).cell c2
 obtain⟨t1,t2,t3,t4⟩:=stage s1 (o+1)
 have H:=Lh (Aj hn (Aj a0 (Aj hlt (Aj hkl (Aj hks (Aj hs (Aj hW (Aj s2 (Aj s3 (Aj s4 (Aj t1 (Aj t2 (Aj t3 (Aj t4 (Aj hr1 hnr1)))))))))))))))
 clear hn a0 hlt hkl hks hs hW s1 s2 s3 s4 t1 t2 t3 t4 hr1 hnr1 c2
 go_upto_region 5 with fail
 obtain⟨hn,a0,hlt,hkl,hks,hs,hW,s2,s3,s4,t1,t2,t3,t4,hr1,hnr1⟩:=H.out
 clear c1 cb fb H
 have hr2:r1<Wa.heap.size:=s4
 have hnr2:bp≠Wa.heap.size:=Nat.ne_of_lt hn.lt
 replace hn:=hn.mod t3 (by simp;omega)
 replace s2:=s2.mod t3 (by simp;omega)
 generalize (Wa.alloc (.map #[] 0)).setCell ⟨b,o+1,none⟩ (.map (some Wa.heap.size))=Wb at*
 generalize Wa.heap.size=r2 at*
 replace t2:=t2 167
 have c2:((cs.setIfInBounds o (.map (some r1))).setIfInBounds (o+1) (.map (some r2)))[o+2]?=some (.map none):=by simp[h3]
 have c1:=t1.cell c2
 have fb:=(t1.mod ((Mod.refl [] Wb).alloc (.map #[] 0)) (by simp)).free
 have cb:=(t1.mod ((Mod.refl [] Wb).alloc (.map #[] 0)) (by simp)).cell c2
 obtain⟨v1,v2,v3,v4⟩:=stage t1 (o+2)
 have H:=Lh (Aj hn (Aj a0 (Aj hlt (Aj hkl (Aj hks (Aj hs (Aj hW (Aj s2 (Aj s3 (Aj t2 (Aj t3 (Aj t4 (Aj hr1 (Aj hnr1 (Aj hr2 (Aj hnr2 (Aj v1 (Aj v2 (Aj v3 v4)))))))))))))))))))
 clear hn a0 hlt hkl hks hs hW s2 s3 t1 t2 t3 t4 hr1 hnr1 hr2 hnr2 c2 v1 v2 v3 v4
 go_upto_region 7 with fail
 obtain⟨hn,a0,hlt,hkl,hks,hs,hW,s2,s3,t2,t3,t4,hr1,hnr1,hr2,hnr2,v1,v2,v3,v4⟩:=H.out
 clear c1 cb fb H
 have hr3:r2<Wb.heap.size:=t4
 have hnr3:bp≠Wb.heap.size:=Nat.ne_of_lt hn.lt
 replace hn:=hn.mod v3 (by simp;omega)
 have m1:=s2.mod v3 (by simp;omega)
 have m2:=t2.mod v3 (by simp;omega)
 replace a0:Mod [b] w _:=(((a0.mono (by simp)).trans s3).trans t3).trans v3
 generalize (Wb.alloc (.map #[] 0)).setCell ⟨b,o+2,none⟩ (.map (some Wb.heap.size))=W9 at*
 generalize Wb.heap.size=r3 at*
 have m3:=v2 167
 have d1:r2≠r1:=by omega
 have d2:r3≠r1:=by omega
 have d3:r3≠r2:=by omega
 generalize hcs:((cs.setIfInBounds o (.map (some r1))).setIfInBounds (o+1) (.map (some r2))).setIfInBounds (o+2) (.map (some r3))=cs' at*
 have i1:cs'[o]?=some (.map (some r1)):=by rw[←hcs,Array.getElem?_setIfInBounds_ne (by omega),Array.getElem?_setIfInBounds_ne (by omega),Array.getElem?_setIfInBounds_self_of_lt (by omega)]
 have i2:cs'[o+1]?=some (.map (some r2)):=by rw[←hcs,Array.getElem?_setIfInBounds_ne (by omega),Array.getElem?_setIfInBounds_self_of_lt (by simp;omega)]
 have i3:cs'[o+2]?=some (.map (some r3)):=by rw[←hcs,Array.getElem?_setIfInBounds_self_of_lt (by simp;omega)]
 have BIG:=Lh (Aj hr1 (Aj hr2 (Aj hr3 (Aj hnr1 (Aj hnr2 hnr3)))))
 clear h1 h2 h3 hos s2 s3 t2 t3 t4 hnr1 hnr2 hnr3 hr1 hr2 hr3 v2 v3 v4 e1 e2 e3 g1 g2 g3
 replace hcs:=Lh hcs
 have c1:=v1.cell i1
 have n0:=hn.cell (i:=0) (v:=.int .i32 x) rfl
 have n1:=hn.cell (i:=1) (v:=.int .i32 y) rfl
 have hd':=v1
 clear v1 s4
 obtain⟨u1,u2,u3⟩:=(m1.mod ((Mod.refl [] W9).drewN 1) (by simp)).put Tryz.underlying158 kl111 (.agg #[.int .i32 x,.int .i32 y]) hks
 have H:=Lh (Aj hn (Aj a0 (Aj hd' (Aj hlt (Aj m1 (Aj m2 (Aj m3 (Aj d1 (Aj d2 (Aj d3 (Aj hkl (Aj hks (Aj hs (Aj u2 (Aj u3 hW)))))))))))))))
 clear hn a0 hd' hlt m1 m2 m3 d1 d2 d3 hkl hks hs u2 u3 hW
 go_still_tail 6,(by kernel_rfl)
 change wpList _ _ _ _ _ (W9.drewN 1)
 go_wp2_with fail
 obtain⟨hn,a0,hd',hlt,m1,m2,m3,d1,d2,d3,hkl,hks,hs,u2,u3,hW⟩:=H.out
 clear u1 n0 n1 c1 H
 replace u3:=((Mod.refl [r1] W9).drewN 1).trans u3
 have q1:b∉[r1]:=by simpa using hd'.ne_map m1
 have q2:bp∉[r1]:=by simpa using hn.ne_map m1
 have q3:b∉[r2]:=by simpa using hd'.ne_map m2
 have q4:bp∉[r2]:=by simpa using hn.ne_map m2
 generalize mupw 158 r1 (.string s) (.agg #[.int .i32 x,.int .i32 y]) (W9.drewN 1)=W1 at*
 replace hn:=hn.mod u3 q2
 replace hd':=hd'.mod u3 q1
 replace m2:=m2.mod u3 (by simpa using d1)
 replace m3:=m3.mod u3 (by simpa using d2)
 have n0:=hn.cell (i:=0) (v:=.int .i32 x) rfl
 have n1:=hn.cell (i:=1) (v:=.int .i32 y) rfl
 have c2:=hd'.cell i2
 obtain⟨v1,v2,v3⟩:=(m2.mod ((Mod.refl [] W1).drewN 1) (by simp)).put Tryz.underlying159 kl167 (.string s) hkl
 have H:=Lh (Aj hn (Aj a0 (Aj hd' (Aj hlt (Aj m2 (Aj m3 (Aj d1 (Aj d2 (Aj d3 (Aj hkl (Aj hs (Aj u2 (Aj u3 (Aj v2 (Aj v3 (Aj hW (Aj q3 q4)))))))))))))))))
 clear hn a0 hd' hlt m1 m2 m3 d1 d2 d3 hkl hks hs u2 u3 v2 v3 q1 q2 q3 q4 hW
 go_still_tail 6,(by kernel_rfl)
 change wpList _ _ _ _ _ (W1.drewN 1)
 go_wp2_with fail
 obtain⟨hn,a0,hd',hlt,m2,m3,d1,d2,d3,hkl,hs,u2,u3,v2,v3,hW,q3,q4⟩:=H.out
 clear v1 n0 n1 c2 H
 replace v3:=((Mod.refl [r2] W1).drewN 1).trans v3
 generalize mupw 159 r2 (.agg #[.int .i32 x,.int .i32 y]) (.string s) (W1.drewN 1)=W2 at*
 have q1:r1∉[r2]:=by simpa using Ne.symm d1
 replace hn:=hn.mod v3 q4
 replace hd':=hd'.mod v3 q3
 replace u2:=u2.mod v3 q1
 replace m3:=m3.mod v3 (by simpa using d3)
 have c3:=hd'.cell i3
 have n0:=hn.cell (i:=0) (v:=.int .i32 x) rfl
 have n1:=hn.cell (i:=1) (v:=.int .i32 y) rfl
 have bc:=bytes_conv 111 Tryz.underlying111 s
 have mB:Mod [] W2 (Lib.bytesWorld W2.drew 5 s):=((Mod.refl [] W2).drew).trans (bytes_mod s _)
 have rB:=bytes_rb s (grownCap W2.drew s.size 0 5) W2.drew
 have hnB:=hn.mod mB (by simp)
 have hdB:=hd'.mod mB (by simp)
 have k0:=hnB.cell (i:=0) (v:=.int .i32 x) rfl
 have k1:=hnB.cell (i:=1) (v:=.int .i32 y) rfl
 have k2:=hdB.cell i3
 obtain⟨z1,z2,z3⟩:=(m3.mod mB (by simp)).put Tryz.underlying160 kl167 (.slice (some ⟨W2.heap.size,0,none⟩) s.size (grownCap W2.drew s.size 0 5)) hkl
 have H:=Lh (Aj hn (Aj a0 (Aj hd' (Aj hlt (Aj m3 (Aj d1 (Aj d2 (Aj d3 (Aj hkl (Aj hs (Aj u2 (Aj u3 (Aj v2 (Aj v3 (Aj hW (Aj mB (Aj rB (Aj z2 z3))))))))))))))))))
 clear hn a0 hd' hlt m3 d1 d2 d3 hkl hs u2 u3 v2 v3 q1 q3 q4 hW mB rB z2 z3 hnB hdB
 clear i1 i2 i3
 go_region_law (first|fail)
 all_goals
  go_wp2_with fail
  refine bodyPost_end (results_none rfl _ _ _) rfl ?_
  obtain⟨hn,a0,hd',hlt,m3,d1,d2,d3,hkl,hs,u2,u3,v2,v3,hW,mB,rB,z2,z3⟩:=H.out
  have hm:MB (Lib.bytesWorld W2.drew 5 s) 167 r3 (fun _=>none):=m3.mod mB (by simp)
  have n1:r1∉[r3]:=by simpa using Ne.symm d2
  have n2:r2∉[r3]:=by simpa using Ne.symm d3
  have M0:Mod [b,r1,r2,r3] w W9:=a0.mono (fun x hx=>.inl (by simp at hx;simp[hx]))
  have M1:=M0.trans (u3.mono (fun x hx=>.inl (by simp at hx;simp[hx])))
  have M2:=M1.trans (v3.mono (fun x hx=>.inl (by simp at hx;simp[hx])))
  have M3:=M2.trans (mB.mono (by simp))
  have M4:=M3.trans (z3.mono (fun x hx=>.inl (by simp at hx;simp[hx])))
  obtain⟨g1,g2,g3,-,-,-⟩:=BIG.out
  have hdZ:=(hd'.mod mB (by simp)).mod z3 (by simpa using (hd'.mod mB (by simp)).ne_map hm)
  rw[←hcs.out] at hdZ
  refine⟨rfl,r1,r2,r3,M4.mono (fun k hk=>?_),by omega,by omega,by omega,d1,d2,d3,hdZ,(u2.mod mB (by simp)).mod z3 n1,⟨_,(v2.mod mB (by simp)).mod z3 n2⟩,_,z2,?_⟩
  ·simp only[List.mem_cons,List.not_mem_nil,or_false] at hk ⊢
   rcases hk with h|h|h|h
   ·exact .inl h
   ·exact .inr (by omega)
   ·exact .inr (by omega)
   ·exact .inr (by omega)
  refine(rB.mod z3 (fun k hk=>.inr ?_)).base M2.size
  rw[List.mem_singleton.1 hk]
  exact hm.isMap
end Go.Proofs.YtcpjclakdpjjfaaGreatDoor
namespace Go.Proofs.YtcpjclakdpjjfaaGreatDoor
open Go.RowKit Wd
def look {α β:Type} [DecidableEq α]:List (α×β)→α→Option β
 | [],_=>none
 |(k,v)::L,x=>if x=k then some v else look L x
def LS (w:World) (b o:Nat) (cs:Array Value) (R:List Nat) (L1:List (ByteArray×(Int×Int))) (L3:List ((Int×Int)×List UInt8)):Prop:=
 ∃r1 r2 r3 f1 f3,R=[r1,r2,r3]∧cs[o]?=some (.map (some r1))∧cs[o+1]?=some (.map (some r2))∧cs[o+2]?=some (.map (some r3))∧MB w 111 r1 f1∧(∃f2,MB w 167 r2 f2)∧MB w 167 r3 f3∧r2≠r1∧r3≠r1∧r3≠r2∧
  (∀s,f1 (.string s)=(look L1 s).map pr)∧∀p,match look L3 p with
   |none=>f3 (pr p)=none
   |some t=>∃V,f3 (pr p)=some V∧Rb w (b+1) V t
theorem LS.maps {w:World} {b o:Nat} {cs:Array Value} {R:List Nat} {L1:List (ByteArray×(Int×Int))} {L3:List ((Int×Int)×List UInt8)} (h:LS w b o cs R L1 L3):∀k,k∈R→∃es c,w.heap[k]?=some (.map es c):=by
 obtain⟨r1,r2,r3,f1,f3,rfl,h1,h2,h3,m1,⟨f2,m2⟩,m3,-⟩:=h
 intro k hk
 simp only[List.mem_cons,List.not_mem_nil,or_false] at hk
 rcases hk with rfl|rfl|rfl
 ·exact m1.isMap
 ·exact m2.isMap
 ·exact m3.isMap
theorem LS.off {w:World} {b o:Nat} {cs:Array Value} {R:List Nat} {L1:List (ByteArray×(Int×Int))} {L3:List ((Int×Int)×List UInt8)} (h:LS w b o cs R L1 L3) {t:TypeId} {c:Nat} {cc:Array Value} (hd:Hd w c t cc):c∉R:=by
 intro hk
 obtain⟨es,q,e⟩:=h.maps c hk
 have:=hd.symm.trans e
 cases this
theorem LS.mod {w w':World} {b o:Nat} {cs:Array Value} {R:List Nat} {L1:List (ByteArray×(Int×Int))} {L3:List ((Int×Int)×List UInt8)} (h:LS w b o cs R L1 L3) {S:List Nat} (m:Mod S w w') (hS:∀k,k∈S→k∉R∧(k<b+1∨∃es c,w.heap[k]?=some (.map es c))) {cs':Array Value} (hcs:∀i,i<3→cs'[o+i]?=cs[o+i]?):LS w' b o cs' R L1 L3:=by
 obtain⟨r1,r2,r3,f1,f3,rfl,h1,h2,h3,m1,⟨f2,m2⟩,m3,d1,d2,d3,t1,t3⟩:=h
 refine⟨r1,r2,r3,f1,f3,rfl,(hcs 0 (by omega)).trans h1,(hcs 1 (by omega)).trans h2,(hcs 2 (by omega)).trans h3,m1.mod m (fun hk=>(hS _ hk).1 (by simp)),⟨f2,m2.mod m (fun hk=>(hS _ hk).1 (by simp))⟩,m3.mod m (fun hk=>(hS _ hk).1 (by simp)),d1,d2,d3,t1,fun p=>?_⟩
 have:=t3 p
 split at this
 ·exact this
 ·obtain⟨V,g1,g2⟩:=this
  exact⟨V,g1,g2.mod m (fun k hk=>(hS k hk).2)⟩
theorem upd_at (f:Value→Option Value) (k v x:Value):upd f k v x=(open Classical in if x=k then some v else f x):=rfl
theorem pr_inj {p q:Int×Int}:pr p=pr q↔p=q:=by
 unfold pr
 constructor
 ·intro h
  simp at h
  exact Prod.ext h.1 h.2
 ·rintro rfl;rfl
theorem LS.add {w:World} {b o:Nat} {cs:Array Value} {R:List Nat} {L1:List (ByteArray×(Int×Int))} {L3:List ((Int×Int)×List UInt8)} (h:LS w b o cs R L1 L3) (hd:Hd w b 164 cs) (s:ByteArray) (x y:Int) (kx:(-2147483648:Int)≤x∧x≤2147483647∧(-2147483648:Int)≤y∧y≤2147483647) (hs:s.size≤maxLen):
 Calls Tryz.prog 101 #[.pointer (some ⟨b,o,none⟩),.string s,.agg #[.int .i32 x,.int .i32 y]] w fun e w'=>e=.returned (.tuple #[])∧Mod R w w'∧LS w' b o cs R ((s,(x,y))::L1) (((x,y),s.data.toList)::L3):=by
 have hmaps:=h.maps
 have hlt:=hd.lt
 obtain⟨r1,r2,r3,f1,f3,rfl,h1,h2,h3,m1,⟨f2,m2⟩,m3,d1,d2,d3,t1,t3⟩:=h
 refine(add_more b o s x y (key_pair kx.1 kx.2.1 kx.2.2.1 kx.2.2.2) hs r1 r2 r3 f1 f2 f3 w cs hd h1 h2 h3 m1 m2 m3 d1 d2 d3).mono ?_
 rintro e w' ⟨rfl,m,g1,g2,V,g3,g4⟩
 refine⟨rfl,m,r1,r2,r3,_,_,rfl,h1,h2,h3,g1,g2,g3,d1,d2,d3,fun u=>?_,fun p=>?_⟩
 ·simp only[look,upd_at,Value.string.injEq]
  split
  ·rfl
  ·exact t1 u
 ·rw[upd_at,show (Value.agg #[.int .i32 x,.int .i32 y])=pr (x,y) from rfl,pr_inj]
  simp only[look]
  by_cases hp:p=(x,y)
  ·simp only[hp,if_true]
   exact⟨V,rfl,g4.base (by omega)⟩
  ·simp only[hp,if_false]
   have:=t3 p
   split at this
   ·exact this
   ·obtain⟨U,q1,q2⟩:=this
    exact⟨U,q1,q2.mod m (fun k hk=>.inr (hmaps k hk))⟩
theorem LS.first {w:World} {b o:Nat} {cs:Array Value} (hd:Hd w b 164 cs) (h1:cs[o]?=some (.map none)) (h2:cs[o+1]?=some (.map none)) (h3:cs[o+2]?=some (.map none)) (s:ByteArray) (x y:Int) (kx:(-2147483648:Int)≤x∧x≤2147483647∧(-2147483648:Int)≤y∧y≤2147483647) (hs:s.size≤maxLen):
 Calls Tryz.prog 101 #[.pointer (some ⟨b,o,none⟩),.string s,.agg #[.int .i32 x,.int .i32 y]] w fun e w'=>e=.returned (.tuple #[])∧∃cs' R,Mod [b] w w'∧(∀k,k∈R→w.heap.size≤k)∧Hd w' b 164 cs'∧(∀i,i<o∨o+3≤i→cs'[i]?=cs[i]?)∧LS w' b o cs' R [(s,(x,y))] [((x,y),s.data.toList)]:=by
 have hlt:=hd.lt
 refine(add_first b o s x y (key_pair kx.1 kx.2.1 kx.2.2.1 kx.2.2.2) hs w cs hd h1 h2 h3).mono ?_
 rintro e w' ⟨rfl,r1,r2,r3,m,e1,e2,e3,d1,d2,d3,hd',g1,g2,V,g3,g4⟩
 have hos:o+2<cs.size:=(Array.getElem?_eq_some_iff.1 h3).1
 refine⟨rfl,_,[r1,r2,r3],m,fun k hk=>?_,hd',fun i hi=>?_,r1,r2,r3,_,_,rfl,?_,?_,?_,g1,g2,g3,d1,d2,d3,fun u=>?_,fun p=>?_⟩
 ·simp only[List.mem_cons,List.not_mem_nil,or_false] at hk
  omega
 ·rw[Array.getElem?_setIfInBounds_ne (by omega),Array.getElem?_setIfInBounds_ne (by omega),Array.getElem?_setIfInBounds_ne (by omega)]
 ·rw[Array.getElem?_setIfInBounds_ne (by omega),Array.getElem?_setIfInBounds_ne (by omega),Array.getElem?_setIfInBounds_self_of_lt (by omega)]
 ·rw[Array.getElem?_setIfInBounds_ne (by omega),Array.getElem?_setIfInBounds_self_of_lt (by simp;omega)]
 ·rw[Array.getElem?_setIfInBounds_self_of_lt (by simp;omega)]
 ·simp only[look,upd_at,Value.string.injEq]
  split<;>rfl
 ·rw[upd_at,show (Value.agg #[.int .i32 x,.int .i32 y])=pr (x,y) from rfl,pr_inj]
  simp only[look]
  by_cases hp:p=(x,y)
  ·simp only[hp,if_true]
   exact⟨V,rfl,g4.base (by omega)⟩
  ·simp only[hp,if_false]
end Go.Proofs.YtcpjclakdpjjfaaGreatDoor
namespace Go.Proofs.YtcpjclakdpjjfaaGreatDoor
open Go.RowKit Wd
abbrev TL1:=List (ByteArray×(Int×Int))
abbrev TL3:=List ((Int×Int)×List UInt8)
def i32p (x y:Int):Prop:=(-2147483648:Int)≤x∧x≤2147483647∧(-2147483648:Int)≤y∧y≤2147483647
def PA (w0 w:World) (b:Nat) (L1:TL1) (L3:TL3):Prop:=
 Mod [] w0 w∧w0.heap.size≤b∧∃cs R,Hd w b 164 cs∧(∀k,k∈R→w0.heap.size≤k)∧(∀i,i<3→cs[i]?=some (.map none))∧LS w b 3 cs R L1 L3
def PB (w0 w:World) (b:Nat) (L1:TL1) (L3:TL3) (D1:TL1) (D3:TL3):Prop:=
 Mod [] w0 w∧w0.heap.size≤b∧∃cs R R',Hd w b 164 cs∧(∀k,k∈R→w0.heap.size≤k)∧(∀k,k∈R'→w0.heap.size≤k)∧(∀k,k∈R→k∉R')∧LS w b 3 cs R L1 L3∧LS w b 0 cs R' D1 D3
theorem PA.start (w:World) (s:ByteArray) (x y:Int) (kx:i32p x y) (hs:s.size≤maxLen):
 Calls Tryz.prog 101 #[.pointer (some ⟨w.heap.size,3,none⟩),.string s,.agg #[.int .i32 x,.int .i32 y]] (w.alloc (.cells #[.map none,.map none,.map none,.map none,.map none,.map none] 164)) fun e w'=>e=.returned (.tuple #[])∧PA w w' w.heap.size [(s,(x,y))] [((x,y),s.data.toList)]:=by
 have hd:=Hd.new w 164 #[.map none,.map none,.map none,.map none,.map none,.map none]
 have m0:Mod [] w (w.alloc (.cells #[.map none,.map none,.map none,.map none,.map none,.map none] 164)):=(Mod.refl [] w).alloc _
 refine(LS.first hd rfl rfl rfl s x y kx hs).mono ?_
 rintro e w' ⟨rfl,cs,R,m,h1,h2,h3,h4⟩
 refine⟨rfl,m0.step m (fun k hk=>.inr (by rw[List.mem_singleton.1 hk];exact Nat.le_refl _)),Nat.le_refl _,cs,R,h2,fun k hk=>?_,fun i hi=>?_,h4⟩
 ·have:=h1 k hk
  have:=m0.size
  omega
 ·rw[h3 i (.inl hi)]
  rcases i with _|_|_|i
  ·rfl
  ·rfl
  ·rfl
  ·omega
theorem PA.add {w0 w:World} {b:Nat} {L1:TL1} {L3:TL3} (h:PA w0 w b L1 L3) (s:ByteArray) (x y:Int) (kx:i32p x y) (hs:s.size≤maxLen):
 Calls Tryz.prog 101 #[.pointer (some ⟨b,3,none⟩),.string s,.agg #[.int .i32 x,.int .i32 y]] w fun e w'=>e=.returned (.tuple #[])∧PA w0 w' b ((s,(x,y))::L1) (((x,y),s.data.toList)::L3):=by
 obtain⟨m0,hb,cs,R,h1,h2,h3,h4⟩:=h
 refine(h4.add h1 s x y kx hs).mono ?_
 rintro e w' ⟨rfl,m,h5⟩
 exact⟨rfl,m0.step m (fun k hk=>.inr (h2 k hk)),hb,cs,R,h1.mod m (h4.off h1),h2,h3,h5⟩
theorem PA.turn {w0 w:World} {b:Nat} {L1:TL1} {L3:TL3} (h:PA w0 w b L1 L3) (s:ByteArray) (x y:Int) (kx:i32p x y) (hs:s.size≤maxLen):
 Calls Tryz.prog 101 #[.pointer (some ⟨b,0,none⟩),.string s,.agg #[.int .i32 x,.int .i32 y]] w fun e w'=>e=.returned (.tuple #[])∧PB w0 w' b L1 L3 [(s,(x,y))] [((x,y),s.data.toList)]:=by
 obtain⟨m0,hb,cs,R,h1,h2,h3,h4⟩:=h
 refine(LS.first h1 (h3 0 (by omega)) (h3 1 (by omega)) (h3 2 (by omega)) s x y kx hs).mono ?_
 rintro e w' ⟨rfl,cs',R',m,g1,g2,g3,g4⟩
 have hRw:∀k,k∈R→k<w.heap.size:=fun k hk=>by
  obtain⟨es,c,q⟩:=h4.maps k hk
  exact lt_of_heap q
 refine⟨rfl,m0.step m (fun k hk=>.inr (by rw[List.mem_singleton.1 hk];exact hb)),hb,cs',R,R',g2,h2,fun k hk=>Nat.le_trans m0.size (g1 k hk),fun k hk hk'=>?_,?_,g4⟩
 ·have:=hRw k hk
  have:=g1 k hk'
  omega
 ·refine h4.mod m (fun k hk=>?_) (fun i hi=>g3 _ (.inr (by omega)))
  rw[List.mem_singleton.1 hk]
  exact⟨h4.off h1,.inl (by omega)⟩
theorem PB.add {w0 w:World} {b:Nat} {L1:TL1} {L3:TL3} {D1:TL1} {D3:TL3} (h:PB w0 w b L1 L3 D1 D3) (s:ByteArray) (x y:Int) (kx:i32p x y) (hs:s.size≤maxLen):
 Calls Tryz.prog 101 #[.pointer (some ⟨b,0,none⟩),.string s,.agg #[.int .i32 x,.int .i32 y]] w fun e w'=>e=.returned (.tuple #[])∧PB w0 w' b L1 L3 ((s,(x,y))::D1) (((x,y),s.data.toList)::D3):=by
 obtain⟨m0,hb,cs,R,R',h1,h2,h3,h6,h4,h5⟩:=h
 refine(h5.add h1 s x y kx hs).mono ?_
 rintro e w' ⟨rfl,m,g1⟩
 exact⟨rfl,m0.step m (fun k hk=>.inr (h3 k hk)),hb,cs,R,R',h1.mod m (h5.off h1),h2,h3,h6,h4.mod m (fun k hk=>⟨fun hk'=>h6 k hk' hk,.inr (h5.maps k hk)⟩) (fun _ _=>rfl),g1⟩
def binL1:TL1:=[(⟨#[69,105]⟩,(2,60)),(⟨#[80,105]⟩,(2,50)),(⟨#[84,105]⟩,(2,40)),(⟨#[71,105]⟩,(2,30)),(⟨#[77,105]⟩,(2,20)),(⟨#[75,105]⟩,(2,10))]
def binL3:TL3:=[((2,60),[69,105]),((2,50),[80,105]),((2,40),[84,105]),((2,30),[71,105]),((2,20),[77,105]),((2,10),[75,105])]
def decL1:TL1:=[(⟨#[69]⟩,(10,18)),(⟨#[80]⟩,(10,15)),(⟨#[84]⟩,(10,12)),(⟨#[71]⟩,(10,9)),(⟨#[77]⟩,(10,6)),(⟨#[107]⟩,(10,3)),(⟨#[]⟩,(10,0)),(⟨#[109]⟩,(10,(-3))),(⟨#[117]⟩,(10,(-6))),(⟨#[110]⟩,(10,(-9))),(⟨#[]⟩,(2,0))]
def decL3:TL3:=[((10,18),[69]),((10,15),[80]),((10,12),[84]),((10,9),[71]),((10,6),[77]),((10,3),[107]),((10,0),[]),((10,(-3)),[109]),((10,(-6)),[117]),((10,(-9)),[110]),((2,0),[])]
theorem i32p_of {x y:Int} (h:(decide ((-2147483648:Int)≤x) && decide (x≤2147483647) && decide ((-2147483648:Int)≤y) && decide (y≤2147483647))=true):i32p x y:=by
 simp only[Bool.and_eq_true,decide_eq_true_eq] at h
 exact⟨h.1.1.1,h.1.1.2,h.1.2,h.2⟩
theorem small_of {s:ByteArray} (h:decide (s.size≤2)=true):s.size≤maxLen:=by
 have:(2:Nat)≤maxLen:=by decide
 have:=of_decide_eq_true h
 omega
theorem newSuffixer_calls (w:World):Calls Tryz.prog 60 #[] w fun e w'=>∃b,e=.returned (.iface 169 (.agg #[.pointer (some ⟨b,0,none⟩)]))∧PB w w' b binL1 binL3 decL1 decL3:=by
 go_enter Tryz.func60,Tryz.ntmps60
 go_wp2_with fail
 refine(PA.start w ⟨#[75,105]⟩ 2 10 (i32p_of (by decide)) (small_of (by decide))).mono ?_
 generalize w.heap.size=b
 rintro _ w1 ⟨rfl,h⟩
 have H:=Lh h
 clear h
 go_wp2_with fail
 refine(H.out.add ⟨#[77,105]⟩ 2 20 (i32p_of (by decide)) (small_of (by decide))).mono ?_
 clear H
 rintro _ w2 ⟨rfl,h⟩
 have H:=Lh h
 clear h
 go_wp2_with fail
 refine(H.out.add ⟨#[71,105]⟩ 2 30 (i32p_of (by decide)) (small_of (by decide))).mono ?_
 clear H
 rintro _ w3 ⟨rfl,h⟩
 have H:=Lh h
 clear h
 go_wp2_with fail
 refine(H.out.add ⟨#[84,105]⟩ 2 40 (i32p_of (by decide)) (small_of (by decide))).mono ?_
 clear H
 rintro _ w4 ⟨rfl,h⟩
 have H:=Lh h
 clear h
 go_wp2_with fail
 refine(H.out.add ⟨#[80,105]⟩ 2 50 (i32p_of (by decide)) (small_of (by decide))).mono ?_
 clear H
 rintro _ w5 ⟨rfl,h⟩
 have H:=Lh h
 clear h
 go_wp2_with fail
 refine(H.out.add ⟨#[69,105]⟩ 2 60 (i32p_of (by decide)) (small_of (by decide))).mono ?_
 clear H
 rintro _ w6 ⟨rfl,h⟩
 have H:=Lh h
 clear h
 go_wp2_with fail
 refine(H.out.turn ⟨#[]⟩ 2 0 (i32p_of (by decide)) (small_of (by decide))).mono ?_
 clear H
 rintro _ w7 ⟨rfl,h⟩
 have H:=Lh h
 clear h
 go_wp2_with fail
 refine(H.out.add ⟨#[110]⟩ 10 (-9) (i32p_of (by decide)) (small_of (by decide))).mono ?_
 clear H
 rintro _ w8 ⟨rfl,h⟩
 have H:=Lh h
 clear h
 go_wp2_with fail
 refine(H.out.add ⟨#[117]⟩ 10 (-6) (i32p_of (by decide)) (small_of (by decide))).mono ?_
 clear H
 rintro _ w9 ⟨rfl,h⟩
 have H:=Lh h
 clear h
 go_wp2_with fail
 refine(H.out.add ⟨#[109]⟩ 10 (-3) (i32p_of (by decide)) (small_of (by decide))).mono ?_
 clear H
 rintro _ w10 ⟨rfl,h⟩
 have H:=Lh h
 clear h
 go_wp2_with fail
 refine(H.out.add ⟨#[]⟩ 10 0 (i32p_of (by decide)) (small_of (by decide))).mono ?_
 clear H
 rintro _ w11 ⟨rfl,h⟩
 have H:=Lh h
 clear h
 go_wp2_with fail
 refine(H.out.add ⟨#[107]⟩ 10 3 (i32p_of (by decide)) (small_of (by decide))).mono ?_
 clear H
 rintro _ w12 ⟨rfl,h⟩
 have H:=Lh h
 clear h
 go_wp2_with fail
 refine(H.out.add ⟨#[77]⟩ 10 6 (i32p_of (by decide)) (small_of (by decide))).mono ?_
 clear H
 rintro _ w13 ⟨rfl,h⟩
 have H:=Lh h
 clear h
 go_wp2_with fail
 refine(H.out.add ⟨#[71]⟩ 10 9 (i32p_of (by decide)) (small_of (by decide))).mono ?_
 clear H
 rintro _ w14 ⟨rfl,h⟩
 have H:=Lh h
 clear h
 go_wp2_with fail
 refine(H.out.add ⟨#[84]⟩ 10 12 (i32p_of (by decide)) (small_of (by decide))).mono ?_
 clear H
 rintro _ w15 ⟨rfl,h⟩
 have H:=Lh h
 clear h
 go_wp2_with fail
 refine(H.out.add ⟨#[80]⟩ 10 15 (i32p_of (by decide)) (small_of (by decide))).mono ?_
 clear H
 rintro _ w16 ⟨rfl,h⟩
 have H:=Lh h
 clear h
 go_wp2_with fail
 refine(H.out.add ⟨#[69]⟩ 10 18 (i32p_of (by decide)) (small_of (by decide))).mono ?_
 clear H
 rintro _ w17 ⟨rfl,h⟩
 have H:=Lh h
 clear h
 go_wp2_with fail
 go_ret
 exact⟨b,rfl,H.out⟩
end Go.Proofs.YtcpjclakdpjjfaaGreatDoor
namespace Go.Proofs.YtcpjclakdpjjfaaGreatDoor
open Go.RowKit Wd
theorem zero167 (w:World):(zeroValue 167).run Tryz.prog w=.ok (.agg #[.int .i32 0,.int .i32 0]) w:=by kernel_rfl
theorem zero79 (w:World):(zeroValue 79).run Tryz.prog w=.ok (.slice none 0 0) w:=by kernel_rfl
theorem ls_lookup {w:World} {b o:Nat} {cs:Array Value} {R:List Nat} {L1:TL1} {L3:TL3} (h:LS w b o cs R L1 L3) (hd:Hd w b 164 cs) (s:ByteArray) (hs:s.size≤maxLen):
 Calls Tryz.prog 333 #[.pointer (some ⟨b,o,none⟩),.string s] w fun e w'=>e=.returned (match look L1 s with|some p=>.tuple #[.int .i32 p.1,.int .i32 p.2,.bool true]|none=>.tuple #[.int .i32 0,.int .i32 0,.bool false])∧Mod [] w w':=by
 obtain⟨r1,r2,r3,f1,f3,rfl,h1,h2,h3,m1,m2,m3,d1,d2,d3,t1,t3⟩:=h
 obtain⟨ks,hks⟩:=key_text hs
 have e1:=m1.lookup Tryz.underlying158 kl111 (zero167 w) hks
 have c1:=hd.cell h1
 rw[t1 s] at e1
 clear hd h1 h2 h3 m1 m2 m3 d1 d2 d3 t1 t3 hs hks
 cases hl:look L1 s with
 |none=>
  rw[hl] at e1
  simp only[Option.map_none,Option.getD_none,Option.isSome_none] at e1
  clear hl
  go_enter Tryz.func333,Tryz.ntmps333
  go_wp2_with fail
  go_ret3
  exact⟨rfl,(Mod.refl [] w).alloc _⟩
 |some p=>
  rw[hl] at e1
  obtain⟨x,y⟩:=p
  simp only[Option.map_some,Option.getD_some,Option.isSome_some,pr] at e1
  clear hl
  go_enter Tryz.func333,Tryz.ntmps333
  go_wp2_with fail
  have hn:=Hd.new w 167 #[.int .i32 x,.int .i32 y]
  have n0:=hn.cell (i:=0) (v:=.int .i32 x) rfl
  have n1:=hn.cell (i:=1) (v:=.int .i32 y) rfl
  have M:Mod [] w (w.alloc (.cells #[.int .i32 x,.int .i32 y] 167)):=(Mod.refl [] w).alloc _
  generalize w.heap.size=g at*
  generalize w.alloc (.cells #[.int .i32 x,.int .i32 y] 167)=W at*
  clear hn e1 c1
  go_quiet (fail)
  go_wp2_with fail
  go_ret3
  exact⟨rfl,M.drewN _⟩
theorem ls_bytes {w:World} {b o:Nat} {cs:Array Value} {R:List Nat} {L1:TL1} {L3:TL3} (h:LS w b o cs R L1 L3) (hd:Hd w b 164 cs) (x y:Int) (kx:i32p x y):
 Calls Tryz.prog 332 #[.pointer (some ⟨b,o,none⟩),.int .i32 x,.int .i32 y] w fun e w'=>w'=w∧∃V,e=.returned (.tuple #[V,.bool (look L3 (x,y)).isSome])∧Rb w (b+1) V ((look L3 (x,y)).getD []):=by
 obtain⟨r1,r2,r3,f1,f3,rfl,h1,h2,h3,m1,m2,m3,d1,d2,d3,t1,t3⟩:=h
 obtain⟨kl,hkl⟩:=key_pair kx.1 kx.2.1 kx.2.2.1 kx.2.2.2
 have e1:=m3.lookup Tryz.underlying160 kl167 (zero79 w) hkl
 have c1:=hd.cell h3
 have T:=t3 (x,y)
 unfold pr at T
 clear hd h1 h2 h3 m1 m2 m3 d1 d2 d3 t1 t3 hkl
 cases hl:look L3 (x,y) with
 |none=>
  rw[hl] at T
  simp only[] at T
  rw[T] at e1
  simp only[Option.getD_none,Option.isSome_none] at e1
  clear hl T
  go_enter Tryz.func332,Tryz.ntmps332
  go_wp2_with fail
  go_ret2
  exact⟨rfl,_,rfl,.inl ⟨rfl,rfl⟩⟩
 |some t=>
  rw[hl] at T
  obtain⟨V,T1,T2⟩:=T
  simp only[] at T1
  rw[T1] at e1
  simp only[Option.getD_some,Option.isSome_some] at e1
  replace T2:=Lh T2
  clear hl T1
  go_enter Tryz.func332,Tryz.ntmps332
  go_wp2_with fail
  go_ret2
  exact⟨rfl,_,rfl,T2.out⟩
end Go.Proofs.YtcpjclakdpjjfaaGreatDoor
namespace Go.Proofs.YtcpjclakdpjjfaaGreatDoor
open Go.RowKit Wd
def eight (a b c d:Int):Array Value:=#[.int .u8 a,.int .u8 b,.int .u8 c,.int .u8 d,.int .u8 0,.int .u8 0,.int .u8 0,.int .u8 0]
theorem pe286 (g:Nat) (w:World):(binOp .eql 286 (.pointer (some ⟨g,1,none⟩)) (.pointer (some ⟨g,1,none⟩))).run Tryz.prog w=.ok (.bool true) w:=by
 obtain⟨i,hi,-⟩:=Option.map_eq_some_iff.1 info5
 exact run_eql_ptr_same w _ Tryz.underlying286 hi
def at2 (w:World) (g:Nat) (a b c d:Int):Prop:=Hd w g 5 (eight a b c d)
theorem at2.cells {w:World} {g:Nat} {a b c d:Int} (h:at2 w g a b c d):w.cell? ⟨g,0,none⟩=some (.int .u8 a)∧w.cell? ⟨g,1,none⟩=some (.int .u8 b)∧w.cell? ⟨g,2,none⟩=some (.int .u8 c)∧w.cell? ⟨g,3,none⟩=some (.int .u8 d)∧∀i,w.frozen? ⟨g,i,none⟩=false:=
 ⟨Hd.cell h (i:=0) rfl,Hd.cell h (i:=1) rfl,Hd.cell h (i:=2) rfl,Hd.cell h (i:=3) rfl,Hd.free h⟩
theorem at2.mod {S:List Nat} {w w':World} {g:Nat} {a b c d:Int} (h:at2 w g a b c d) (m:Mod S w w') (hg:g∉S):at2 w' g a b c d:=Hd.mod h m hg
theorem mod_g {w:World} {g:Nat} (i:Nat) (v:Value):Mod [g] w (w.setCell ⟨g,i,none⟩ v):=(Mod.refl [g] w).setCell _ (.inl (by simp))
theorem au1 (g u:Nat) (p:UInt8) (w:World) (hu:u<100) (hd:Lib.decDigits u=[p]) (h:at2 w g 101 0 0 0):
 Calls Tryz.prog 198 #[.slice (some ⟨g,1,none⟩) 0 7,.int .u64 u,.int .i64 10] w fun e w'=>e=.returned (.slice (some ⟨g,1,none⟩) 1 7)∧at2 w' g 101 p.toNat 0 0∧Mod [g] w w':=by
 obtain⟨c0,c1,c2,c3,fr⟩:=h.cells
 have sm:=Tryz.internal_strconv_small u hu
 rw[hd] at sm
 have t1:decide ((u:Int)<100)=true:=by simp;omega
 have t2:wrap64 (u:Int)=u:=by unfold wrap64;omega
 replace h:=Lh h
 clear hd hu
 go_enter Tryz.func198,Tryz.ntmps198
 go_wp2_with fail
 refine(sm w).mono ?_
 rintro _ _ ⟨rfl,rfl⟩
 go_wp2_with fail
 go_ret
 exact⟨rfl,Hd.set (h.out) 1 (.int .u8 (p.toNat:Int)),mod_g _ _⟩
theorem au2 (g u:Nat) (p q:UInt8) (w:World) (hu:u<100) (hd:Lib.decDigits u=[p,q]) (h:at2 w g 101 0 0 0):
 Calls Tryz.prog 198 #[.slice (some ⟨g,1,none⟩) 0 7,.int .u64 u,.int .i64 10] w fun e w'=>e=.returned (.slice (some ⟨g,1,none⟩) 2 7)∧at2 w' g 101 p.toNat q.toNat 0∧Mod [g] w w':=by
 obtain⟨c0,c1,c2,c3,fr⟩:=h.cells
 have sm:=Tryz.internal_strconv_small u hu
 rw[hd] at sm
 have t1:decide ((u:Int)<100)=true:=by simp;omega
 have t2:wrap64 (u:Int)=u:=by unfold wrap64;omega
 replace h:=Lh h
 clear hd hu
 go_enter Tryz.func198,Tryz.ntmps198
 go_wp2_with fail
 refine(sm w).mono ?_
 rintro _ _ ⟨rfl,rfl⟩
 go_wp2_with fail
 go_ret
 exact⟨rfl,Hd.set (Hd.set (h.out) 1 (.int .u8 (p.toNat:Int))) 2 (.int .u8 (q.toNat:Int)),Mod.trans (mod_g _ _) (mod_g _ _)⟩
theorem au3 (g u:Nat) (p:UInt8) (w:World) (hu:u<100) (hd:Lib.decDigits u=[p]) (h:at2 w g 101 45 0 0):
 Calls Tryz.prog 198 #[.slice (some ⟨g,1,none⟩) 1 7,.int .u64 u,.int .i64 10] w fun e w'=>e=.returned (.slice (some ⟨g,1,none⟩) 2 7)∧at2 w' g 101 45 p.toNat 0∧Mod [g] w w':=by
 obtain⟨c0,c1,c2,c3,fr⟩:=h.cells
 have sm:=Tryz.internal_strconv_small u hu
 rw[hd] at sm
 have t1:decide ((u:Int)<100)=true:=by simp;omega
 have t2:wrap64 (u:Int)=u:=by unfold wrap64;omega
 replace h:=Lh h
 clear hd hu
 go_enter Tryz.func198,Tryz.ntmps198
 go_wp2_with fail
 refine(sm w).mono ?_
 rintro _ _ ⟨rfl,rfl⟩
 go_wp2_with fail
 go_ret
 exact⟨rfl,Hd.set (h.out) 2 (.int .u8 (p.toNat:Int)),mod_g _ _⟩
theorem ai1 (g u:Nat) (p:UInt8) (w:World) (hu:u<100) (h0:0<u) (hd:Lib.decDigits u=[p]) (h:at2 w g 101 0 0 0):
 Calls Tryz.prog 163 #[.slice (some ⟨g,1,none⟩) 0 7,.int .i64 (u:Int),.int .i64 10] w fun e w'=>e=.returned (.slice (some ⟨g,1,none⟩) 1 7)∧at2 w' g 101 p.toNat 0 0∧Mod [g] w w':=by
 have t1:decide ((u:Int)<0)=false:=by simp
 have t2:wrap64 (u:Int)=u:=by unfold wrap64;omega
 have t3:IntKind.u64.wrap (u:Int)=u:=by rw[IntKind.wrap_u64];omega
 have C:=Lh (au1 g u p w hu hd h)
 clear hd hu h h0
 go_enter Tryz.func163,Tryz.ntmps163
 go_wp2_with fail
 refine C.out.mono ?_
 rintro _ w2 ⟨rfl,hr⟩
 replace hr:=Lh hr
 go_wp2_with fail
 go_ret
 exact⟨rfl,hr.out⟩
theorem ai2 (g u:Nat) (p q:UInt8) (w:World) (hu:u<100) (h0:0<u) (hd:Lib.decDigits u=[p,q]) (h:at2 w g 101 0 0 0):
 Calls Tryz.prog 163 #[.slice (some ⟨g,1,none⟩) 0 7,.int .i64 (u:Int),.int .i64 10] w fun e w'=>e=.returned (.slice (some ⟨g,1,none⟩) 2 7)∧at2 w' g 101 p.toNat q.toNat 0∧Mod [g] w w':=by
 have t1:decide ((u:Int)<0)=false:=by simp
 have t2:wrap64 (u:Int)=u:=by unfold wrap64;omega
 have t3:IntKind.u64.wrap (u:Int)=u:=by rw[IntKind.wrap_u64];omega
 have C:=Lh (au2 g u p q w hu hd h)
 clear hd hu h h0
 go_enter Tryz.func163,Tryz.ntmps163
 go_wp2_with fail
 refine C.out.mono ?_
 rintro _ w2 ⟨rfl,hr⟩
 replace hr:=Lh hr
 go_wp2_with fail
 go_ret
 exact⟨rfl,hr.out⟩
theorem ai3 (g u:Nat) (p:UInt8) (w:World) (hu:u<100) (h0:0<u) (hd:Lib.decDigits u=[p]) (h:at2 w g 101 0 0 0):
 Calls Tryz.prog 163 #[.slice (some ⟨g,1,none⟩) 0 7,.int .i64 (-(u:Int)),.int .i64 10] w fun e w'=>e=.returned (.slice (some ⟨g,1,none⟩) 2 7)∧at2 w' g 101 45 p.toNat 0∧Mod [g] w w':=by
 obtain⟨m,hm⟩:∃m:Nat,m=18446744073709551616-u:=⟨_,rfl⟩
 have t1:decide (-(u:Int)<0)=true:=by simp;omega
 have t5:decide (0<u)=true:=by simpa using h0
 have t3:IntKind.u64.wrap (-(u:Int))=m:=by rw[IntKind.wrap_u64];omega
 have t4:IntKind.u64.wrap (-(m:Int))=u:=by rw[IntKind.wrap_u64];omega
 obtain⟨c0,c1,c2,c3,fr⟩:=h.cells
 have hlt:=Hd.lt h
 have hW:at2 ((w.setCell ⟨g,1,none⟩ (.int .u8 45)).alloc (.cells #[.int .u8 45] 5)) g 101 45 0 0:=Hd.mod (Hd.set h 1 (.int .u8 45)) ((Mod.refl [] _).alloc _) (by simp)
 have mW:Mod [g] w ((w.setCell ⟨g,1,none⟩ (.int .u8 45)).alloc (.cells #[.int .u8 45] 5)):=(mod_g _ _).alloc _
 have hb:=h.mod ((Mod.refl [] w).alloc (.cells #[.int .u8 45] 5)) (by simp)
 obtain⟨b0,b1,b2,b3,fb⟩:=hb.cells
 have C:=Lh (Aj mW (au3 g u p _ hu hd hW))
 clear hd hu h h0 hW hb mW hm
 go_enter Tryz.func163,Tryz.ntmps163
 go_wp2_with fail
 refine C.out.2.mono ?_
 rintro _ w2 ⟨rfl,hr⟩
 replace hr:=Lh hr
 go_wp2_with fail
 go_ret
 exact⟨rfl,hr.out.1,C.out.1.trans hr.out.2⟩
theorem mk8 (w:World):(Instr.makeSlice 79 (.int .i64 8) (.int .i64 8)).run Tryz.prog w=.ok (.slice (some ⟨w.heap.size,0,none⟩) 8 8) (w.alloc (.cells #[.int .u8 0,.int .u8 0,.int .u8 0,.int .u8 0,.int .u8 0,.int .u8 0,.int .u8 0,.int .u8 0] 5)):=by kernel_rfl
theorem ai131 {s i V:Value} {w:World} {Q:World→Prop} (h:Calls Tryz.prog 163 #[s,i,.int .i64 10] w fun e w'=>e=.returned V∧Q w'):Calls Tryz.prog 131 #[s,i,.int .i64 10] w fun e w'=>e=.returned V∧Q w':=by
 have C:=Lh h
 clear h
 go_enter Tryz.func131,Tryz.ntmps131
 go_wp2_with fail
 refine C.out.mono ?_
 rintro _ w2 ⟨rfl,hr⟩
 replace hr:=Lh hr
 go_wp2_with fail
 go_ret
 exact⟨rfl,hr.out⟩
theorem cb1 (b u:Nat) (p:UInt8) (w:World) (hu:u<100) (h0:0<u) (hd:Lib.decDigits u=[p]):
 Calls Tryz.prog 330 #[.pointer (some ⟨b,0,none⟩),.int .i32 10,.int .i32 (u:Int),.string ⟨#[68,101,99,105,109,97,108,69,120,112,111,110,101,110,116]⟩] w fun e w'=>∃V,e=.returned (.tuple #[V,.bool true])∧Rb w' w.heap.size V [101,p]∧Mod [] w w':=by
 have hW:at2 (w.alloc (.cells #[.int .u8 101,.int .u8 0,.int .u8 0,.int .u8 0,.int .u8 0,.int .u8 0,.int .u8 0,.int .u8 0] 5)) w.heap.size 101 0 0 0:=Hd.new w 5 (eight 101 0 0 0)
 have mW:Mod [] w (w.alloc (.cells #[.int .u8 101,.int .u8 0,.int .u8 0,.int .u8 0,.int .u8 0,.int .u8 0,.int .u8 0,.int .u8 0] 5)):=(Mod.refl [] w).alloc _
 have C:=Lh (Aj mW (ai131 (ai1 w.heap.size u p _ hu h0 hd hW)))
 have t1:((u:Int)==0)=false:=by simp;omega
 have t2:wrap64 (u:Int)=(u:Int):=by unfold wrap64;omega
 have mk:=mk8 w
 have fr:=(Hd.new w 5 (eight 0 0 0 0)).free
 have e0:(w.alloc (.cells #[.int .u8 0,.int .u8 0,.int .u8 0,.int .u8 0,.int .u8 0,.int .u8 0,.int .u8 0,.int .u8 0] 5)).cell? ⟨w.heap.size,0,none⟩=some (.int .u8 0):=(Hd.new w 5 (eight 0 0 0 0)).cell rfl
 clear hd hu h0 hW mW
 go_enter Tryz.func330,Tryz.ntmps330
 go_wp2_with fail
 clear mk fr e0
 obtain⟨mW,C⟩:=C.out
 replace mW:=Lh mW
 generalize hg:w.heap.size=g at*
 generalize w.alloc (.cells #[.int .u8 101,.int .u8 0,.int .u8 0,.int .u8 0,.int .u8 0,.int .u8 0,.int .u8 0,.int .u8 0] 5)=W at*
 refine C.mono ?_
 clear C
 have pe:=pe286 g
 rintro _ w2 ⟨rfl,hr⟩
 replace hr:=Lh (Aj hr hg)
 clear hg
 go_wp2_with fail
 go_quiet (fail)
 go_wp2_with fail
 go_ret2
 obtain⟨⟨h1,h2⟩,hg⟩:=hr.out
 refine⟨_,rfl,.inr ⟨g,8,_,_,_,rfl,Nat.le_of_eq hg,Hd.mod h1 ((Mod.refl [] w2).drewN _) (by simp),fun i hi=>?_⟩,(mW.out.step h2 (fun k hk=>.inr (by rw[List.mem_singleton.1 hk,hg];exact Nat.le_refl _))).drewN _⟩
 match i,hi with
 |0,_=>rfl
 |1,_=>rfl
 |i+2,hi=>simp at hi;omega
theorem cb2 (b u:Nat) (p q:UInt8) (w:World) (hu:u<100) (h0:0<u) (hd:Lib.decDigits u=[p,q]):
 Calls Tryz.prog 330 #[.pointer (some ⟨b,0,none⟩),.int .i32 10,.int .i32 (u:Int),.string ⟨#[68,101,99,105,109,97,108,69,120,112,111,110,101,110,116]⟩] w fun e w'=>∃V,e=.returned (.tuple #[V,.bool true])∧Rb w' w.heap.size V [101,p,q]∧Mod [] w w':=by
 have hW:at2 (w.alloc (.cells #[.int .u8 101,.int .u8 0,.int .u8 0,.int .u8 0,.int .u8 0,.int .u8 0,.int .u8 0,.int .u8 0] 5)) w.heap.size 101 0 0 0:=Hd.new w 5 (eight 101 0 0 0)
 have mW:Mod [] w (w.alloc (.cells #[.int .u8 101,.int .u8 0,.int .u8 0,.int .u8 0,.int .u8 0,.int .u8 0,.int .u8 0,.int .u8 0] 5)):=(Mod.refl [] w).alloc _
 have C:=Lh (Aj mW (ai131 (ai2 w.heap.size u p q _ hu h0 hd hW)))
 have t1:((u:Int)==0)=false:=by simp;omega
 have t2:wrap64 (u:Int)=(u:Int):=by unfold wrap64;omega
 have mk:=mk8 w
 have fr:=(Hd.new w 5 (eight 0 0 0 0)).free
 have e0:(w.alloc (.cells #[.int .u8 0,.int .u8 0,.int .u8 0,.int .u8 0,.int .u8 0,.int .u8 0,.int .u8 0,.int .u8 0] 5)).cell? ⟨w.heap.size,0,none⟩=some (.int .u8 0):=(Hd.new w 5 (eight 0 0 0 0)).cell rfl
 clear hd hu h0 hW mW
 go_enter Tryz.func330,Tryz.ntmps330
 go_wp2_with fail
 clear mk fr e0
 obtain⟨mW,C⟩:=C.out
 replace mW:=Lh mW
 generalize hg:w.heap.size=g at*
 generalize w.alloc (.cells #[.int .u8 101,.int .u8 0,.int .u8 0,.int .u8 0,.int .u8 0,.int .u8 0,.int .u8 0,.int .u8 0] 5)=W at*
 refine C.mono ?_
 clear C
 have pe:=pe286 g
 rintro _ w2 ⟨rfl,hr⟩
 replace hr:=Lh (Aj hr hg)
 clear hg
 go_wp2_with fail
 go_quiet (fail)
 go_wp2_with fail
 go_ret2
 obtain⟨⟨h1,h2⟩,hg⟩:=hr.out
 refine⟨_,rfl,.inr ⟨g,8,_,_,_,rfl,Nat.le_of_eq hg,Hd.mod h1 ((Mod.refl [] w2).drewN _) (by simp),fun i hi=>?_⟩,(mW.out.step h2 (fun k hk=>.inr (by rw[List.mem_singleton.1 hk,hg];exact Nat.le_refl _))).drewN _⟩
 match i,hi with
 |0,_=>rfl
 |1,_=>rfl
 |2,_=>rfl
 |i+3,hi=>simp at hi;omega
theorem cb3 (b u:Nat) (p:UInt8) (w:World) (hu:u<100) (h0:0<u) (hd:Lib.decDigits u=[p]):
 Calls Tryz.prog 330 #[.pointer (some ⟨b,0,none⟩),.int .i32 10,.int .i32 (-(u:Int)),.string ⟨#[68,101,99,105,109,97,108,69,120,112,111,110,101,110,116]⟩] w fun e w'=>∃V,e=.returned (.tuple #[V,.bool true])∧Rb w' w.heap.size V [101,45,p]∧Mod [] w w':=by
 have hW:at2 (w.alloc (.cells #[.int .u8 101,.int .u8 0,.int .u8 0,.int .u8 0,.int .u8 0,.int .u8 0,.int .u8 0,.int .u8 0] 5)) w.heap.size 101 0 0 0:=Hd.new w 5 (eight 101 0 0 0)
 have mW:Mod [] w (w.alloc (.cells #[.int .u8 101,.int .u8 0,.int .u8 0,.int .u8 0,.int .u8 0,.int .u8 0,.int .u8 0,.int .u8 0] 5)):=(Mod.refl [] w).alloc _
 have C:=Lh (Aj mW (ai131 (ai3 w.heap.size u p _ hu h0 hd hW)))
 have t1:((-(u:Int))==0)=false:=by simp;omega
 have t2:wrap64 (-(u:Int))=(-(u:Int)):=by unfold wrap64;omega
 have mk:=mk8 w
 have fr:=(Hd.new w 5 (eight 0 0 0 0)).free
 have e0:(w.alloc (.cells #[.int .u8 0,.int .u8 0,.int .u8 0,.int .u8 0,.int .u8 0,.int .u8 0,.int .u8 0,.int .u8 0] 5)).cell? ⟨w.heap.size,0,none⟩=some (.int .u8 0):=(Hd.new w 5 (eight 0 0 0 0)).cell rfl
 clear hd hu h0 hW mW
 go_enter Tryz.func330,Tryz.ntmps330
 go_wp2_with fail
 clear mk fr e0
 obtain⟨mW,C⟩:=C.out
 replace mW:=Lh mW
 generalize hg:w.heap.size=g at*
 generalize w.alloc (.cells #[.int .u8 101,.int .u8 0,.int .u8 0,.int .u8 0,.int .u8 0,.int .u8 0,.int .u8 0,.int .u8 0] 5)=W at*
 refine C.mono ?_
 clear C
 have pe:=pe286 g
 rintro _ w2 ⟨rfl,hr⟩
 replace hr:=Lh (Aj hr hg)
 clear hg
 go_wp2_with fail
 go_quiet (fail)
 go_wp2_with fail
 go_ret2
 obtain⟨⟨h1,h2⟩,hg⟩:=hr.out
 refine⟨_,rfl,.inr ⟨g,8,_,_,_,rfl,Nat.le_of_eq hg,Hd.mod h1 ((Mod.refl [] w2).drewN _) (by simp),fun i hi=>?_⟩,(mW.out.step h2 (fun k hk=>.inr (by rw[List.mem_singleton.1 hk,hg];exact Nat.le_refl _))).drewN _⟩
 match i,hi with
 |0,_=>rfl
 |1,_=>rfl
 |2,_=>rfl
 |i+3,hi=>simp at hi;omega
end Go.Proofs.YtcpjclakdpjjfaaGreatDoor
