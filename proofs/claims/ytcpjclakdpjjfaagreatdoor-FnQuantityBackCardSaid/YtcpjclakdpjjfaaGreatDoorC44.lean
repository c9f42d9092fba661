/- A number rounded up to a power of ten (spec/quantities. -/
import Derived.Test.YtcpjclakdpjjfaaGreatDoorC32
import Derived.Test.YtcpjclakdpjjfaaGreatDoorC28
set_option maxHeartbeats 6400000
set_option maxRecDepth 10000
namespace Go.Proofs.YtcpjclakdpjjfaaGreatDoor
open Go.RowKit Wd Dg
def OwR (w:World) (base g n cap:Nat) (L:List Nat):Prop:=L.length=n∧w.ownsRow base 3 1 (.slice (some ⟨g,0,none⟩) n cap) n (ics L)
theorem OwR.hd {w:World} {base g n cap:Nat} {L:List Nat} (h:OwR w base g n cap L):∃cur,base≤g∧Hd w g 3 cur∧n≤cap∧cap≤maxLen∧cur.size=cap∧cur.toList.take n=ics L:=by
 obtain⟨h1,-,⟨h2,-⟩|⟨g',cap',cur,h2,h3,h4,h5,h6,h7,h8⟩⟩:=h
 ·cases h2
 ·simp only[Value.slice.injEq,Option.some.injEq,Addr.mk.injEq,and_true,true_and] at h2
  obtain⟨rfl,rfl⟩:=h2
  exact⟨cur,h3,h4,h5,h6,by omega,by rw[Nat.mul_one] at h8;exact h8⟩
theorem OwR.cell {w:World} {base g n cap:Nat} {L:List Nat} (h:OwR w base g n cap L) {i:Nat} (hi:i<n):w.cell? ⟨g,i,none⟩=some (.int .i64 ((L.getD i 0:Nat):Int)):=by
 obtain⟨cur,-,h2,-,-,-,h3⟩:=h.hd
 refine h2.cell ?_
 have h1:=h.1
 have h9:(cur.toList.take n)[i]?=some (.int .i64 ((L.getD i 0:Nat):Int)):=by
  rw[h3];simp[ics,List.getD_eq_getElem?_getD,List.getElem?_eq_getElem (show i<L.length by omega)]
 rw[List.getElem?_take_of_lt (by omega)] at h9
 simpa using h9
theorem OwR.free {w:World} {base g n cap:Nat} {L:List Nat} (h:OwR w base g n cap L) (i:Nat):w.frozen? ⟨g,i,none⟩=false:=by
 obtain⟨cur,-,h2,-⟩:=h.hd
 exact h2.free i
theorem OwR.set {w:World} {base g n cap:Nat} {L:List Nat} (h:OwR w base g n cap L) (i x:Nat):OwR (w.setCell ⟨g,i,none⟩ (.int .i64 (x:Int))) base g n cap (L.set i x):=by
 obtain⟨cur,h1,h2,h3,h4,h5,h6⟩:=h.hd
 refine⟨by rw[List.length_set];exact h.1,?_,.inr ⟨g,cap,_,rfl,h1,h2.set i (.int .i64 (x:Int)),h3,h4,by rw[Array.size_setIfInBounds];omega,?_⟩⟩
 ·rw[ics_len,List.length_set,h.1,Nat.mul_one]
 ·rw[Array.toList_setIfInBounds,Nat.mul_one,List.take_set,h6,ics,ics,List.map_set]
theorem OwR.mods {S:List Nat} {w w':World} {base g n cap:Nat} {L:List Nat} (h:OwR w base g n cap L) (m:Mod S w w') (hg:g∉S):OwR w' base g n cap L:=by
 have h1:=h.1
 refine⟨h1,?_⟩
 have h2:=h.2
 rw[←h1] at h2 ⊢
 exact own_mods h2 m (fun k hk=>by have:g=k:=by simpa [Value.ownBlock] using hk
                                   rw[←this];exact hg)
theorem OwR.of {w:World} {base:Nat} {v:Value} {l:List Nat} (h:w.ownsRow base 3 1 v l.length (ics l)) (hl:l≠[]):∃g cap,v=.slice (some ⟨g,0,none⟩) l.length cap∧OwR w base g l.length cap l:=by
 obtain⟨h1,⟨rfl,h⟩|⟨g,cap,cur,rfl,h3⟩⟩:=h
 ·exact(hl (List.eq_nil_of_length_eq_zero h)).elim
 ·exact⟨g,cap,rfl,rfl,h1,.inr ⟨g,cap,cur,rfl,h3⟩⟩
theorem Ir.take {w:World} {g o n c:Nat} {l:List Nat} (hl:l.length=n) (h:Ir w (.slice (some ⟨g,o,none⟩) n c) l) {k:Nat} (hk:k≤n):Ir w (.slice (some ⟨g,o,none⟩) k c) (l.take k):=by
 rcases h with ⟨h,-⟩|⟨g',o',c',h1,h2,h3,h4,h5⟩
 ·cases h
 ·simp only[Value.slice.injEq,Option.some.injEq,Addr.mk.injEq,and_true] at h1
  obtain⟨⟨rfl,rfl⟩,-,rfl⟩:=h1
  exact .inr ⟨g,o,c,by rw[List.length_take,Nat.min_eq_left (by omega)],by rw[List.length_take];omega,h3,h4,fun i hi=>by rw[h5 i (by rw[List.length_take] at hi;omega),List.getElem_take]⟩
structure UpSt (WW:World) (g keep cap T i:Nat) (M:List Nat) (wr:World):Prop where
 oo:OwR wr WW.heap.size g (keep+1) cap M
 ii:i≤keep
 ad:AD M
 zz:M.getD 0 0=0
 vv:dv M+10^(keep-i)=T
 mm:Mod [] WW wr
theorem UpSt.start {WW w1:World} {g keep cap:Nat} {l:List Nat} (h:OwR w1 WW.heap.size g (keep+1) cap ([0]++l.take keep)) (m:Mod [] WW w1) (hA:AD l) (_hl:(l.take keep).length=keep):UpSt WW g keep cap (dv (l.take keep)+1) keep ([0]++l.take keep) w1:=by
 refine⟨h,Nat.le_refl _,?_,rfl,?_,m⟩
 ·intro d hd
  rcases List.mem_append.1 hd with hd|hd
  ·rw[List.mem_singleton.1 hd];decide
  ·exact hA d (List.mem_of_mem_take hd)
 ·rw[List.singleton_append,dv_cons,Nat.zero_mul,Nat.zero_add,Nat.sub_self]
theorem OwR.ir {w:World} {base g n cap:Nat} {L:List Nat} (h:OwR w base g n cap L):Ir w (.slice (some ⟨g,0,none⟩) n cap) L:=by
 obtain⟨h1,h2⟩:=h
 subst h1
 exact Ir.own h2
theorem UpSt.turn {WW wr wX:World} {g keep cap T i:Nat} {M:List Nat} (h:UpSt WW g keep cap T i M wr) (hX:wr.setCell ⟨g,i,none⟩ (.int .i64 ((M.getD i 0:Nat)+1:Int))=wX):
 Mod [] WW wX∧OwR wX WW.heap.size g (keep+1) cap (M.set i (M.getD i 0+1))∧(dv (M.set i (M.getD i 0+1))=T∧M.length=keep+1)∧(M.getD i 0<9→AD (M.set i (M.getD i 0+1)))∧wX.cell? ⟨g,i,none⟩=some (.int .i64 ((M.getD i 0:Nat)+1:Int))∧∀j,wX.frozen? ⟨g,j,none⟩=false:=by
 subst hX
 have hs:=h.oo.set i (M.getD i 0+1)
 have e:(((M.getD i 0+1:Nat):Int))=((M.getD i 0:Nat)+1:Int):=by omega
 rw[e] at hs
 obtain⟨cur,h1,h2,-⟩:=h.oo.hd
 have hl:=h.oo.1
 have hi:i<M.length:=by have:=h.ii;omega
 have hgd:M.getD i 0=M[i]:=by rw[List.getD_eq_getElem?_getD,List.getElem?_eq_getElem hi,Option.getD_some]
 refine⟨h.mm.setCell _ (.inr h1),hs,⟨?_,hl⟩,fun h9=>h.ad.set (by omega),?_,hs.free⟩
 ·rw[hgd]
  exact up_stay hi (by have:=h.vv;rw[hl];exact this)
 ·have hc:=hs.cell (i:=i) (by have:=h.ii;omega)
  rw[hc,←e,List.getD_eq_getElem?_getD,List.getElem?_set_self hi,Option.getD_some]
theorem UpSt.over {WW wr wX:World} {g keep cap T i:Nat} {M:List Nat} (h:UpSt WW g keep cap T i M wr) (hX:wr.setCell ⟨g,i,none⟩ (.int .i64 ((M.getD i 0:Nat)+1:Int))=wX) (h9:M.getD i 0=9) (h0:0<i):
 UpSt WW g keep cap T (i-1) (M.set i 0) (wX.setCell ⟨g,i,none⟩ (.int .i64 0)):=by
 obtain⟨hm,hs,-,-,-,-⟩:=h.turn hX
 have hs2:=hs.set i 0
 rw[List.set_set] at hs2
 obtain⟨cur,h1,h2,-⟩:=h.oo.hd
 have hl:=h.oo.1
 have hi:i<M.length:=by have:=h.ii;omega
 have hgd:M.getD i 0=M[i]:=by rw[List.getD_eq_getElem?_getD,List.getElem?_eq_getElem hi,Option.getD_some]
 refine⟨hs2,by have:=h.ii;omega,h.ad.set (by decide),?_,?_,hm.setCell _ (.inr h1)⟩
 ·have:=h.zz
  rw[List.getD_eq_getElem?_getD] at this ⊢
  rw[List.getElem?_set_ne (by omega)]
  exact this
 ·have:=up_over hi h0 (hgd▸h9) (T:=T) (by have:=h.vv;rw[hl];exact this)
  rw[hl] at this
  exact this
def DupRet (V c:Int) (w:World) (e:Ending) (w':World):Prop:=∃d b,e=.returned (.tuple #[d,.bool b])∧Dc w' d (rup10 V c) (-170) 300∧(b=true↔rup10 V c=V)∧Mod [] w w'
theorem up_val {neg:Bool} {l:List Nat} {e V lo hi c:Int} {keep:Nat} (h:Dg.DF neg l e V lo hi) (hl:l≠[]) (hec:e<c) (hk:(keep:Int)=max 0 ((l.length:Int)+e-c)) (he:-400≤e):
 sg neg*((dv (l.take keep)+1:Nat):Int)*(sc c:Int)=rup10 V c∧rup10 V c≠V:=by
 obtain⟨h1,h2⟩:=up_keep (E:=(e+400).toNat) (F:=(c+400).toNat) (keep:=keep) h.nd hl (by omega) (by omega)
 have hne:rup10 V c≠V:=fun hx=>by
  have:=(h.mult (c:=c) (by omega)).1 ⟨up V (sc c),hx.symm⟩
  rcases this with h|h
  ·exact hl h
  ·omega
 refine⟨?_,hne⟩
 have hab:=h.abs
 have hu:upA V.natAbs (sc c)=dv (l.take keep)+1:=upA_eq (sc_pos c) (by rw[hab];exact h2) (by rw[hab];exact h1)
 unfold rup10 up
 rw[hu]
 have hn:=h.neg
 have hv0:V≠0:=fun hv=>hl (h.eq0.1 hv)
 by_cases hV:V<0
 ·rw[if_pos hV]
  have:neg=true:=by rw[hn];simpa using hV
  subst this
  simp[sg,Int.neg_mul]
 ·rw[if_neg hV]
  have:neg=false:=by rw[hn];simpa using hV
  subst this
  simp[sg]
theorem spec_up (d:Value) (V c:Int) (w:World) (h:Dc w d V (-170) 260) (h1:-9≤c) (h2:c≤18):Calls Tryz.prog 15 #[d,.int .i64 c] w (DupRet V c w):=by
 obtain⟨neg,sl,l,ex,rfl,hir,hF⟩:=h
 obtain⟨a,ca,rfl,hc1,hc2⟩:=hir.form
 have hlen:=hF.len (by decide)
 have q1:=Hd.mod (Hd.new w 27 #[.bool neg,.slice a l.length ca,.int .i64 ex]) ((Mod.refl [] _).alloc (.cells #[.bool false,.slice none 0 0,.int .i64 0] 27)) (by simp)
 have q2:Hd ((w.alloc (.cells #[.bool neg,.slice a l.length ca,.int .i64 ex] 27)).alloc (.cells #[.bool false,.slice none 0 0,.int .i64 0] 27)) (w.heap.size+1) 27 #[.bool false,.slice none 0 0,.int .i64 0]:=by
  have:=Hd.new (w.alloc (.cells #[.bool neg,.slice a l.length ca,.int .i64 ex] 27)) 27 #[.bool false,.slice none 0 0,.int .i64 0]
  simpa using this
 have mW:Mod [] w _:=((Mod.refl [] w).alloc (.cells #[.bool neg,.slice a l.length ca,.int .i64 ex] 27)).alloc (.cells #[.bool false,.slice none 0 0,.int .i64 0] 27)
 have HF:=Lh hF
 have HL:=Lh hlen
 unfold dcv
 by_cases hx:l=[]∨c≤ex
 ·have HR:rup10 V c=V:=by
   obtain⟨m,hm⟩:=(hF.mult (c:=c) (by omega)).2 hx
   exact rup_exact hm
  have FS:=Lh (dc_put q2 (by omega) mW (hir.mod mW) hF)
  have HR:=Lh HR
  have KF:=q2.free
  have t12:(((l.length:Int)==0)=true∧True)∨(((l.length:Int)==0)=false∧decide (c≤ex)=true):=by
   by_cases hl:l=[]
   ·exact .inl ⟨by rw[hl];rfl,trivial⟩
   ·exact .inr ⟨by simp;exact hl,by rcases hx with h|h;exact(hl h).elim;simpa using h⟩
  have c0:=q1.cell (i:=0) rfl
  have c1:=q1.cell (i:=1) rfl
  have c2:=q1.cell (i:=2) rfl
  have r0:=q2.cell (i:=0) rfl
  have r1:=q2.cell (i:=1) rfl
  have r2:=q2.cell (i:=2) rfl
  clear hir hF hlen q1 q2 mW hx hc1 hc2 h1 h2
  generalize l.length=n at*
  generalize hWW:(w.alloc (.cells #[.bool neg,.slice a n ca,.int .i64 ex] 27)).alloc (.cells #[.bool false,.slice none 0 0,.int .i64 0] 27)=WW at*
  rcases t12 with ⟨t1,-⟩|⟨t1,t2⟩
  all_goals
   go_enter Tryz.func15,Tryz.ntmps15
   go_wp2_with fail
   obtain⟨hd,hdc,hmd⟩:=FS.out
   have z0:=hd.cell (i:=0) rfl
   have z1:=hd.cell (i:=1) rfl
   have z2:=hd.cell (i:=2) rfl
   refine bodyPost_ret (v:=.tuple #[dcv neg (.slice a n ca) ex,.bool true]) (by unfold dcv;simp[results,Tryz.results15,go_sem,z0,z1,z2];try rfl) rfl ?_
   refine⟨_,_,rfl,?_,?_,hmd⟩
   ·rw[HR.out];exact hdc.mono (by omega) (by omega) (by omega) (by omega)
   ·simp[HR.out]
 ·have hl:l≠[]:=fun h=>hx (.inl h)
  have hex:ex<c:=by have:=fun h=>hx (.inr h);omega
  obtain⟨g0,o0,c0',hs,-,-,-,-⟩:=hir.cells hl
  simp only[Value.slice.injEq,true_and] at hs
  obtain⟨rfl,rfl⟩:=hs
  have hge:=hF.ge hl
  have hle:=hF.le hl
  obtain⟨keep,hk⟩:∃k:Nat,(k:Int)=max 0 ((l.length:Int)+ex-c):=⟨(max 0 ((l.length:Int)+ex-c)).toNat,by omega⟩
  obtain⟨hv1,hv2⟩:=up_val hF hl hex hk (by omega)
  have hkl:keep≤l.length:=by omega
  have IR:=Lh (fun(w':World) (m:Mod [] w w')=>(hir.mod m).take rfl hkl)
  have FV:=Lh (Aj hv1 (Aj hv2 (Aj hF.nd.ad hl)))
  have HN:=Lh (Aj hge (Aj hle (Aj hex (Aj hk hkl))))
  have t1:((l.length:Int)==0)=false:=by simp;exact hl
  have t2:decide (c≤ex)=false:=by simp;omega
  have u1:wrap64 ((l.length:Int)+ex)=l.length+ex:=w64 rfl (by omega) (by omega)
  have u2:wrap64 ((l.length:Int)+ex-c)=l.length+ex-c:=w64 rfl (by omega) (by omega)
  have u3:max 0 ((l.length:Int)+ex-c)=(keep:Int):=hk.symm
  have KF:=q2.free
  have c0:=q1.cell (i:=0) rfl
  have c1:=q1.cell (i:=1) rfl
  have c2:=q1.cell (i:=2) rfl
  have r0:=q2.cell (i:=0) rfl
  have r1:=q2.cell (i:=1) rfl
  have r2:=q2.cell (i:=2) rfl
  have HQ:=Lh (Aj q1 (Aj q2 mW))
  clear hir hF hlen q1 q2 mW hx hge hle hv1 hv2
  generalize hn:l.length=n at*
  generalize hWW:(w.alloc (.cells #[.bool neg,.slice (some ⟨g0,o0,none⟩) n ca,.int .i64 ex] 27)).alloc (.cells #[.bool false,.slice none 0 0,.int .i64 0] 27)=WW at*
  obtain⟨WA,hWA⟩:∃WA,WW.alloc (.cells #[.int .i64 0] 3)=WA:=⟨_,rfl⟩
  have mA:Mod [] WW WA:=hWA▸(Mod.refl [] WW).alloc (.cells #[.int .i64 0] 3)
  have hown:WA.ownsRow WW.heap.size 3 1 (.slice (some ⟨WW.heap.size,0,none⟩) 1 1) [0].length (ics [0]):=hWA▸own_one WW 0
  have hsz:WW.heap.size≤WA.heap.size:=mA.size
  have d0:=Hd.cell (Hd.mod HQ.out.1 mA (by simp)) (i:=1) rfl
  have d1:=Hd.cell (Hd.mod HQ.out.1 mA (by simp)) (i:=0) rfl
  obtain⟨v1,w1,hrun,ho,hg⟩:=append_ir (ys:=l.take keep) hown (IR.out _ (HQ.out.2.2.trans mA)) (by have:=HL.out;have:=HN.out.2.2.2.2;simp;omega) hsz
  have mB:=own_grown hown (Nat.le_refl _) mA hg
  obtain⟨gr,cap,hvv,hO⟩:=OwR.of ho (by simp)
  have hm2:([0]++l.take keep).length=keep+1:=by have:=HN.out.2.2.2.2;rw[List.length_append,List.length_take,hn];simp;omega
  rw[hm2] at hvv hO
  have HO:=Lh hO
  have HB:=Lh mB
  have hkc:keep≤ca:=Nat.le_trans hkl hc1
  have H12:=Lh (show -9≤c∧c≤18∧c+keep+1≤300 by have:=HN.out;have:=HL.out;omega)
  have HK:=Lh (show keep≤430 by have:=HL.out;have:=HN.out.2.2.2.2;omega)
  clear ho hg hn hO mB mA hown hsz HN h1 h2 hc1 hc2 hkl hk hm2
  clear hex
  subst hvv
  go_enter Tryz.func15,Tryz.ntmps15
  go_wp2_with (at_builtin;refine Lib.wpList_append_run _ rfl _ _ _ _ rfl _ _ rfl rfl _ _ hrun ?_)
  have HS:=Lh (UpSt.start HO.out HB.out (FV.out.2.2.1) (by have:=HO.out.1;simpa using this))
  clear hrun d0 d1 c0 c1 c2 t1 t2 u1 u2 u3 r0 r1 r2 hkc
  clear hWA hWW
  go_loopw [8] (fun t8 wr=>∃(i:Nat) (M:List Nat),t8=.int .i64 i∧UpSt WW gr keep cap (dv (l.take keep)+1) i M wr) (fun t8 _=>(intOf t8).toNat)
  case atStart=>exact⟨keep,_,by have:=HK.out;rw[w64 (x:=(keep:Int)) rfl (by omega) (by omega)],HS.out⟩
  case round=>
   obtain⟨i,M,rfl,hst⟩:=hrel
   have hcell:=hst.oo.cell (i:=i) (by have:=hst.ii;omega)
   have hfree:=hst.oo.free
   have h9:=digit_le hst.ad i
   have hik:=hst.ii
   obtain⟨wX,hWX⟩:∃wX,wr.setCell ⟨gr,i,none⟩ (.int .i64 ((M.getD i 0:Nat)+1:Int))=wX:=⟨_,rfl⟩
   have TN:=Lh (hst.turn hWX)
   have hmx:Mod [] WW wX:=TN.out.1
   have ST0:=Lh hst
   have a0:=Hd.cell (Hd.mod HQ.out.1 hmx (by simp)) (i:=0) rfl
   have hz:=hst.zz
   have HX:=Lh (Aj hmx hWX)
   have hi0:i<keep+1:=by omega
   have HI:=Lh hik
   have fX:=TN.out.2.2.2.2.2
   have e0:=TN.out.2.2.2.2.1
   clear hst hmx hik
   have hzy:i=0→M.getD i 0=0:=fun h=>h▸hz
   clear hz
   generalize hy:M.getD i 0=y at hcell h9 hWX hzy e0
   have HY:=Lh hy
   clear hy
   have hk4:=HK.out
   rcases Nat.lt_or_ge y 9 with hy9|hy9
   ·have t3:decide ((y:Int)+1<10)=true:=by simp;omega
    have DD:=Lh (decimal_calls neg c _ _ wX (TN.out.2.1.ir) (TN.out.2.2.2.1 (by rw[HY.out];omega)) (by have:=H12.out;omega) (hi:=300) (by have:=H12.out;rw[List.length_set,TN.out.2.2.1.2];omega) (by decide))
    clear hzy hk4
    go_upto_region 1 with fail
    refine DD.out.mono ?_
    rintro _ w4 ⟨_,rfl,⟨ng,sl4,l4,ex4,rfl,hir4,hF4⟩,m4⟩
    obtain⟨a4,c6,rfl,-,-⟩:=hir4.form
    have q4:=Hd.mod (Hd.mod HQ.out.2.1 HX.out.1 (by simp)) m4 (by simp)
    have FS:=Lh (dc_put q4 (by omega) ((HQ.out.2.2.trans HX.out.1).trans m4) hir4 hF4)
    have r0:=q4.cell (i:=0) rfl
    have r1:=q4.cell (i:=1) rfl
    have r2:=q4.cell (i:=2) rfl
    have rf:=q4.free
    clear hir4 hF4 m4 q4 DD
    unfold dcv
    generalize l4.length=n4 at*
    go_wp2_with fail
    obtain⟨hd,hdc,hmd⟩:=FS.out
    have z0:=hd.cell (i:=0) rfl
    have z1:=hd.cell (i:=1) rfl
    have z2:=hd.cell (i:=2) rfl
    refine bodyPost_ret (v:=.tuple #[dcv ng (.slice a4 n4 c6) ex4,.bool false]) (by unfold dcv;simp[results,Tryz.results15,go_sem,z0,z1,z2];try rfl) rfl ?_
    rw[TN.out.2.2.1.1,FV.out.1] at hdc
    refine⟨_,_,rfl,hdc.mono (by have:=H12.out;omega) (by omega) (by omega) (by omega),?_,hmd⟩
    exact⟨fun h=>(by cases h),fun h=>(FV.out.2.1 h).elim⟩
   ·have hi1:i≠0:=fun h=>by have:=hzy h;omega
    have t3:decide ((y:Int)+1<10)=false:=by simp;omega
    have OV:=Lh (ST0.out.over HX.out.2 (by rw[HY.out];omega) (by omega))
    have HW:=Lh (show wrap64 ((i:Int)-1)=((i-1:Nat):Int) from w64 (by omega) (by omega) (by have:=HI.out;omega))
    have H1:=Lh (show i-1<i by omega)
    clear hzy hk4 hi1
    go_wp2_with fail
    go_roundw
    case rel=>exact⟨i-1,_,by rw[HW.out],OV.out⟩
    case measure=>rw[HW.out];simp only[intOf];have:=H1.out;omega
end Go.Proofs.YtcpjclakdpjjfaaGreatDoor
