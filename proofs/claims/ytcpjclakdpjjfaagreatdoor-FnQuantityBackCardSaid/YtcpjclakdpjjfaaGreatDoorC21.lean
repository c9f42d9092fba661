/- strings. -/
import Derived.Test.YtcpjclakdpjjfaaGreatDoorC11
import Derived.Test.YtcpjclakdpjjfaaGreatDoorC01
import Derived.Laws.BytesArg
import Derived.Lib.AppendStr
import Derived.Lib.UnsafeStr
import Derived.Handy
import Derived.StringKeys
import Derived.DeepKeys3
import Derived.Lib.ConvBytes
set_option maxHeartbeats 1600000
namespace Go.Proofs.YtcpjclakdpjjfaaGreatDoor
open Go.RowKit Wd
def Rd (w:World) (b:Nat) (s:ByteArray) (i p:Int):Prop:=Hd w b 219 #[.string s,.int .i64 i,.int .i64 p]
theorem newReader_calls (s:ByteArray) (w:World):Calls Tryz.prog 105 #[.string s] w fun e w'=>e=.returned (.pointer (some ⟨w.heap.size,0,none⟩))∧Rd w' w.heap.size s 0 (-1)∧Mod [] w w':=by
 have h:=Hd.new w 219 #[.string s,.int .i64 0,.int .i64 (-1)]
 have H:=Lh h
 clear h
 go_enter Tryz.func105,Tryz.ntmps105
 go_wp2_with fail
 go_ret
 exact⟨rfl,H.out,(Mod.refl [] w).alloc _⟩
theorem readByte_ok (b i:Nat) (p:Int) (s:ByteArray) (w:World) (h:Rd w b s i p) (hi:i<s.size) (hc:s.size≤1000000):
 Calls Tryz.prog 336 #[.pointer (some ⟨b,0,none⟩)] w fun e w'=>e=.returned (.tuple #[.int .u8 ((s[i]'hi).toNat:Int),.nilIface])∧Rd w' b s ((i+1:Nat):Int) (-1)∧Mod [b] w w':=by
 have c0:=h.cell (i:=0) (v:=.string s) rfl
 have c1:=h.cell (i:=1) (v:=.int .i64 i) rfl
 have c2:=h.cell (i:=2) (v:=.int .i64 p) rfl
 have fr:=h.free
 have t1:decide ((s.size:Int)≤(i:Int))=false:=by simp;omega
 have h1:Rd (w.setCell ⟨b,2,none⟩ (.int .i64 (-1))) b s i (-1):=h.set 2 _
 have m1:Mod [b] w (w.setCell ⟨b,2,none⟩ (.int .i64 (-1))):=(Mod.refl [b] w).setCell _ (.inl (by simp))
 have HX:=Lh (Aj h1 m1)
 clear h h1 m1
 go_enter Tryz.func336,Tryz.ntmps336
 go_wp2_with fail
 obtain⟨h1,m1⟩:=HX.out
 clear c0 c1 c2 fr HX
 generalize w.setCell ⟨b,2,none⟩ (.int .i64 (-1))=w1 at*
 have c0:=h1.cell (i:=0) (v:=.string s) rfl
 have c1:=h1.cell (i:=1) (v:=.int .i64 i) rfl
 have fr:=h1.free 1
 have H1:=Lh (Aj h1 m1)
 clear h1 m1
 go_quiet (fail)
 go_wp2_with fail
 go_quiet (fail)
 go_wp2_with fail
 go_ret2
 obtain⟨h1,m1⟩:=H1.out
 exact⟨rfl,Hd.set (h1.mod ((Mod.refl [] w1).drewN _) (by simp)) 1 _,(m1.drewN _).setCell _ (.inl (by simp))⟩
theorem readByte_end (b i:Nat) (p:Int) (s:ByteArray) (ev:Value) (w:World) (h:Rd w b s i p) (hi:s.size≤i) (he:w.cell? ⟨3,0,none⟩=some ev) (hb:19≤b):
 Calls Tryz.prog 336 #[.pointer (some ⟨b,0,none⟩)] w fun e w'=>e=.returned (.tuple #[.int .u8 0,ev])∧Rd w' b s i (-1)∧Mod [b] w w':=by
 have c0:=h.cell (i:=0) (v:=.string s) rfl
 have c1:=h.cell (i:=1) (v:=.int .i64 i) rfl
 have c2:=h.cell (i:=2) (v:=.int .i64 p) rfl
 have fr:=h.free
 have t1:decide ((s.size:Int)≤(i:Int))=true:=by simp;omega
 have h1:Rd (w.setCell ⟨b,2,none⟩ (.int .i64 (-1))) b s i (-1):=h.set 2 _
 have m1:Mod [b] w (w.setCell ⟨b,2,none⟩ (.int .i64 (-1))):=(Mod.refl [b] w).setCell _ (.inl (by simp))
 have e1:(w.setCell ⟨b,2,none⟩ (.int .i64 (-1))).cell? ⟨3,0,none⟩=some ev:=(m1.cell (p:=⟨3,0,none⟩) (World.block_lt_of_cell? w _ he) (by simp;omega)).trans he
 have HX:=Lh (Aj h1 (Aj m1 e1))
 clear h h1 m1 e1 he
 go_enter Tryz.func336,Tryz.ntmps336
 go_wp2_with fail
 obtain⟨h1,m1,e1⟩:=HX.out
 clear c0 c1 c2 fr HX
 generalize w.setCell ⟨b,2,none⟩ (.int .i64 (-1))=w1 at*
 have c0:=h1.cell (i:=0) (v:=.string s) rfl
 have c1:=h1.cell (i:=1) (v:=.int .i64 i) rfl
 have H1:=Lh (Aj h1 m1)
 clear h1 m1
 go_quiet (fail)
 go_wp2_with fail
 go_quiet (fail)
 go_wp2_with fail
 go_ret2
 obtain⟨h1,m1⟩:=H1.out
 exact⟨rfl,h1.mod (((Mod.refl [] w1).drewN _).drewN _) (by simp),(m1.drewN _).drewN _⟩
theorem unreadByte_calls (b i:Nat) (p:Int) (s:ByteArray) (w:World) (h:Rd w b s ((i+1:Nat):Int) p) (hi:i≤1000000):
 Calls Tryz.prog 337 #[.pointer (some ⟨b,0,none⟩)] w fun e w'=>e=.returned .nilIface∧Rd w' b s (i:Int) (-1)∧Mod [b] w w':=by
 have c0:=h.cell (i:=0) (v:=.string s) rfl
 have c1:=h.cell (i:=1) (v:=.int .i64 ((i+1:Nat):Int)) rfl
 have c2:=h.cell (i:=2) (v:=.int .i64 p) rfl
 have fr:=h.free
 have t1:decide (((i+1:Nat):Int)≤0)=false:=by simp
 have h1:Rd (w.setCell ⟨b,2,none⟩ (.int .i64 (-1))) b s ((i+1:Nat):Int) (-1):=h.set 2 _
 have m1:Mod [b] w (w.setCell ⟨b,2,none⟩ (.int .i64 (-1))):=(Mod.refl [b] w).setCell _ (.inl (by simp))
 have h2:Rd ((w.setCell ⟨b,2,none⟩ (.int .i64 (-1))).setCell ⟨b,1,none⟩ (.int .i64 (i:Int))) b s (i:Int) (-1):=h1.set 1 _
 have HX:=Lh (Aj h2 (m1.setCell (p:=⟨b,1,none⟩) (.int .i64 (i:Int)) (.inl (by simp))))
 clear h h1 m1 h2
 go_enter Tryz.func337,Tryz.ntmps337
 go_wp2_with fail
 go_ret
 exact⟨rfl,HX.out⟩
end Go.Proofs.YtcpjclakdpjjfaaGreatDoor
namespace Go.Proofs.YtcpjclakdpjjfaaGreatDoor
open Go.RowKit Wd
theorem info5:(Tryz.prog.info? 5).map (fun i=>(i.zero,i.size,i.bytes))=some (some (.int .u8 0),1,1):=by kernel_rfl
def Bs (w:World) (base:Nat) (v:Value) (l:List UInt8):Prop:=w.ownsRow base 5 1 v l.length (Lib.byteCells l)
theorem Bs.nil (w:World) (base:Nat):Bs w base (.slice none 0 0) []:=World.ownsRow_nil w base 5 1
theorem Bs.mod {S:List Nat} {w w':World} {base:Nat} {v:Value} {l:List UInt8} (h:Bs w base v l) (m:Mod S w w') (hS:∀k,k∈S→k<base):Bs w' base v l:=by
 obtain⟨h1,h2⟩:=h
 refine⟨h1,h2.imp_right ?_⟩
 rintro⟨g,cap,cur,e1,e2,e3,e4⟩
 exact⟨g,cap,cur,e1,e2,(m.block g (lt_of_heap e3) (fun hg=>by have:=hS g hg;omega)).trans e3,e4⟩
theorem Bs.base {w:World} {base b2:Nat} {v:Value} {l:List UInt8} (h:Bs w base v l) (hb:b2≤base):Bs w b2 v l:=by
 obtain⟨h1,h2⟩:=h
 refine⟨h1,h2.imp_right ?_⟩
 rintro⟨g,cap,cur,e1,e2,e3,e4⟩
 exact⟨g,cap,cur,e1,by omega,e3,e4⟩
theorem Bs.drewN {w:World} {base:Nat} {v:Value} {l:List UInt8} (h:Bs w base v l) (k:Nat):Bs (w.drewN k) base v l:=h.mod ((Mod.refl [] w).drewN k) (by simp)
theorem Bs.form {w:World} {base:Nat} {v:Value} {l:List UInt8} (h:Bs w base v l):∃a c,v=.slice a l.length c∧∀k,v.ownBlock=some k→base≤k∧k<w.heap.size:=by
 have hlt:=World.ownsRow.lt h
 obtain⟨h1,⟨rfl,h2⟩|⟨g,cap,cur,rfl,h2,h3,h4⟩⟩:=h
 ·exact⟨none,0,by rw[h2],hlt⟩
 ·exact⟨_,_,rfl,hlt⟩
theorem Bs.cell {w:World} {base:Nat} {l:List UInt8} {g n c:Nat} (h:Bs w base (.slice (some ⟨g,0,none⟩) n c) l) {i:Nat} (hi:i<l.length):w.cell? ⟨g,i,none⟩=some (.int .u8 ((l[i]'hi).toNat:Int)):=by
 obtain⟨h1,⟨h2,_⟩|⟨g',cap,cur,h2,h3,h4,h5,h6,h7,h8⟩⟩:=h
 ·cases h2
 ·cases h2
  have e:cur[i]?=some (.int .u8 ((l[i]'hi).toNat:Int)):=by
   have h9:(cur.toList.take (l.length*1))[i]?=some (.int .u8 ((l[i]'hi).toNat:Int)):=by
    rw[h8];simp[Lib.byteCells,hi]
   rw[List.getElem?_take_of_lt (by omega)] at h9
   simpa using h9
  simp[World.cell?,h4,e]
theorem conv_nil (w:World):(convert 79 9 (.slice none 0 0)).run Tryz.prog w=.ok (.string ⟨#[]⟩) w:=by kernel_rfl
theorem Bs.conv {w:World} {base:Nat} {v:Value} {l:List UInt8} (h:Bs w base v l):(convert 79 9 v).run Tryz.prog w=.ok (.string ⟨l.toArray⟩) w:=by
 obtain⟨a,c,rfl,-⟩:=h.form
 have h0:=h
 obtain⟨h1,⟨h2,h3⟩|⟨g,cap,cur,h2,h3,h4,h5,h6,h7,h8⟩⟩:=h
 ·have:l=[]:=List.eq_nil_of_length_eq_zero h3
  subst this
  simp only[List.length_nil,Value.slice.injEq] at h2
  obtain⟨rfl,-,rfl⟩:=h2
  exact conv_nil w
 ·cases h2
  have:=run_convert_bytes_arg (P:=Tryz.prog) w 79 5 Tryz.underlying79 Tryz.underlying5 g 0 l.length c (l.map fun x=>(x.toNat:Int)) (by simp) (fun i hi=>by
   rw[Nat.zero_add,h0.cell hi]
   simp[List.getD_eq_getElem?_getD,hi]) 9 Tryz.underlying9
  rw[this]
  have e:strOfNums (l.map fun x=>(x.toNat:Int))=⟨l.toArray⟩:=by
   simp[strOfNums,List.map_map,Function.comp_def]
  rw[e]
end Go.Proofs.YtcpjclakdpjjfaaGreatDoor
namespace Go.Proofs.YtcpjclakdpjjfaaGreatDoor
open Go.RowKit Wd
theorem kl111:WideMaps.KeyLaw Tryz.prog 111:=WideMaps.string_law Tryz.underlying111
theorem kl167:WideMaps.KeyLaw Tryz.prog 167:=deep_law (m:=2) (by omega) (by kernel_rfl) (by kernel_rfl) (by kernel_rfl)
open Classical in
noncomputable def upd (f:Value→Option Value) (k v:Value):Value→Option Value:=fun x=>if x=k then some v else f x
def MB (w:World) (kt:TypeId) (b:Nat) (f:Value→Option Value):Prop:=
 ∃es clock,w.heap[b]?=some (.map es clock)∧(∀x∈es.toList,∃l,keyOf Tryz.prog kt x.key=some l)∧es.toList.Pairwise (fun x y=>x.key≠y.key)∧∀k v,f k=some v↔∃x∈es.toList,x.key=k∧x.val=v
theorem MB.turn {w w':World} {kt:TypeId} {b:Nat} {f:Value→Option Value} (h:MB w kt b f) (e:w'.heap[b]?=w.heap[b]?):MB w' kt b f:=by
 obtain⟨es,clock,h1,h2⟩:=h
 exact⟨es,clock,e.trans h1,h2⟩
theorem MB.lt {w:World} {kt:TypeId} {b:Nat} {f:Value→Option Value} (h:MB w kt b f):b<w.heap.size:=by
 obtain⟨es,clock,h1,h2⟩:=h
 exact lt_of_heap h1
theorem MB.new (w:World) (kt:TypeId):MB (w.alloc (.map #[] 0)) kt w.heap.size (fun _=>none):=
 ⟨#[],0,(MapKept.heap_alloc w _).1,by simp,by simp,by simp⟩
theorem MB.update {w:World} {t kt et:TypeId} {b:Nat} {f:Value→Option Value} (h:MB w kt b f) (ht:Tryz.prog.underlying t=some (.map kt et)) (K:WideMaps.KeyLaw Tryz.prog kt) {key val:Value} {kl:Lit} (hk:keyOf Tryz.prog kt key=some kl):
 ∃o,(Instr.mapUpdate t (.map (some b)) key val).run Tryz.prog w=.ok () { w with heap:=w.heap.setIfInBounds b o }∧MB { w with heap:=w.heap.setIfInBounds b o } kt b (upd f key val):=by
 obtain⟨es,clock,hb,h2,h3,h4⟩:=h
 have hlt:=lt_of_heap hb
 rcases K.find w hk es.toList h2 with ⟨h5,h6⟩|⟨j,e0,h5,h6,h7⟩
 ·refine⟨.map (es.push ⟨key,val,clock⟩) (clock+1),?_,es.push ⟨key,val,clock⟩,clock+1,by simp[hlt],?_,?_,?_⟩
  ·simp[Instr.mapUpdate,run_underlying ht,MapKept.run_getObj_map hb,K.check w false hk,h5,MapKept.run_setObj_map _ hb,Result.andThen]
  ·intro x hx
   simp only[Array.toList_push,List.mem_append,List.mem_singleton] at hx
   rcases hx with hx|rfl
   ·exact h2 x hx
   ·exact⟨_,hk⟩
  ·simp only[Array.toList_push]
   refine List.pairwise_append.2 ⟨h3,by simp,fun x hx y hy=>?_⟩
   simp only[List.mem_singleton] at hy
   subst hy
   exact h6 x hx
  ·intro k v
   simp only[Array.toList_push,List.mem_append,List.mem_singleton,upd]
   constructor
   ·intro h
    split at h
    ·rename_i e
     exact⟨_,.inr rfl,e.symm,Option.some.inj h⟩
    ·obtain⟨x,hx,e⟩:=(h4 k v).1 h
     exact⟨x,.inl hx,e⟩
   ·rintro⟨x,hx|rfl,rfl,rfl⟩
    ·rw[if_neg (h6 x hx)]
     exact(h4 _ _).2 ⟨x,hx,rfl,rfl⟩
    ·rw[if_pos rfl]
 ·have hj:es[j]?=some e0:=by simpa using h6
  have hjs:j<es.size:=(Array.getElem?_eq_some_iff.1 hj).1
  have hget:∀(i:Nat) (x:MapEntry),(es.modify j (fun e'=> { e' with key:=key,val:=val })).toList[i]?=some x→(i=j∧x.key=key∧x.val=val)∨(i≠j∧es.toList[i]?=some x):=by
   intro i x hx
   by_cases hi:i=j
   ·subst hi
    simp[hj] at hx
    subst hx
    exact .inl ⟨rfl,rfl,rfl⟩
   ·refine .inr ⟨hi,?_⟩
    simpa [Array.getElem?_modify,Ne.symm hi] using hx
  have hpw:∀(i i':Nat) (x y:MapEntry),es.toList[i]?=some x→es.toList[i']?=some y→x.key=y.key→i=i':=by
   intro i i' x y hx hy e
   rcases Nat.lt_trichotomy i i' with g|g|g
   ·obtain⟨g1,rfl⟩:=List.getElem?_eq_some_iff.1 hx
    obtain⟨g2,rfl⟩:=List.getElem?_eq_some_iff.1 hy
    exact absurd e (List.pairwise_iff_getElem.1 h3 i i' g1 g2 g)
   ·exact g
   ·obtain⟨g1,rfl⟩:=List.getElem?_eq_some_iff.1 hx
    obtain⟨g2,rfl⟩:=List.getElem?_eq_some_iff.1 hy
    exact absurd e.symm (List.pairwise_iff_getElem.1 h3 i' i g2 g1 g)
  refine⟨.map (es.modify j (fun e'=> { e' with key:=key,val:=val })) clock,?_,es.modify j (fun e'=> { e' with key:=key,val:=val }),clock,by simp[hlt],?_,?_,?_⟩
  ·simp[Instr.mapUpdate,run_underlying ht,MapKept.run_getObj_map hb,K.check w false hk,h5,hj,h7,K.stays w hk,MapKept.run_setObj_map _ hb,Result.andThen]
  ·intro x hx
   rcases MapFrom.mem_modify hx with hx|⟨e',_,rfl⟩
   ·exact h2 x hx
   ·exact⟨_,hk⟩
  ·have hkeys:(es.modify j (fun e'=> { e' with key:=key,val:=val })).toList.map (·.key)=es.toList.map (·.key):=
    MapKept.modify_keys _ _ (fun e he=>by rw[hj] at he;cases he;exact h7.symm)
   have:=(List.pairwise_map (f:=MapEntry.key) (R:=fun a b=>a≠b)).2 h3
   rw[←hkeys] at this
   exact(List.pairwise_map (f:=MapEntry.key) (R:=fun a b=>a≠b)).1 this
  ·intro k v
   simp only[upd]
   constructor
   ·intro h
    split at h
    ·rename_i e
     have hv:=Option.some.inj h
     subst e hv
     exact⟨{ e0 with key:=k,val:=val },List.mem_of_getElem? (i:=j) (by simp[hj]),rfl,rfl⟩
    ·rename_i e
     obtain⟨x,hx,e1,e2⟩:=(h4 k v).1 h
     obtain⟨i,hi⟩:=List.mem_iff_getElem?.1 hx
     refine⟨x,List.mem_of_getElem? (i:=i) ?_,e1,e2⟩
     have hij:j≠i:=fun g=>by
      subst g
      rw[h6] at hi
      cases hi
      exact e (e1.symm.trans h7)
     simpa [Array.getElem?_modify,hij] using hi
   ·rintro⟨x,hx,rfl,rfl⟩
    obtain⟨i,hi⟩:=List.mem_iff_getElem?.1 hx
    rcases hget i x hi with ⟨_,g1,g2⟩|⟨g0,g⟩
    ·rw[if_pos g1,g2]
    ·rw[if_neg (fun q=>g0 (hpw i j x e0 g h6 (q.trans h7.symm)))]
     exact(h4 _ _).2 ⟨x,List.mem_of_getElem? g,rfl,rfl⟩
theorem MB.lookup {w:World} {t kt et:TypeId} {b:Nat} {f:Value→Option Value} (h:MB w kt b f) (ht:Tryz.prog.underlying t=some (.map kt et)) (K:WideMaps.KeyLaw Tryz.prog kt) {z:Value} (hz:(zeroValue et).run Tryz.prog w=.ok z w) {key:Value} {kl:Lit} (hk:keyOf Tryz.prog kt key=some kl):
 (Instr.lookup t (.map (some b)) key true).run Tryz.prog w=.ok (.tuple #[(f key).getD z,.bool (f key).isSome]) w:=by
 obtain⟨es,clock,hb,h2,h3,h4⟩:=h
 rcases K.find w hk es.toList h2 with ⟨h5,h6⟩|⟨j,e0,h5,h6,h7⟩
 ·have e:f key=none:=by
   cases hf:f key with
   |none=>rfl
   |some v=>
    obtain⟨x,hx,e1,_⟩:=(h4 key v).1 hf
    exact absurd e1 (h6 x hx)
  simp[Instr.lookup,run_underlying ht,MapKept.run_getObj_map hb,K.check w _ hk,h5,hz,Result.andThen,e]
 ·have e:f key=some e0.val:=(h4 _ _).2 ⟨e0,List.mem_of_getElem? h6,h7,rfl⟩
  simp[Instr.lookup,run_underlying ht,MapKept.run_getObj_map hb,K.check w _ hk,h5,Result.andThen,e]
theorem kt167:Tryz.prog.keyType 167=true:=by kernel_rfl
theorem form167 (a b:Int):(Value.agg #[.int .i32 a,.int .i32 b]).formed Tryz.prog 167=true:=by kernel_rfl
theorem c21:Tryz.prog.cellsOf 21=1:=by kernel_rfl
theorem c167:Tryz.prog.cellsOf 167=2:=by kernel_rfl
theorem sz0:(Tryz.prog.types.size==0)=false:=by kernel_rfl
theorem sz:∃n,Tryz.prog.types.size=n+1:=Nat.exists_eq_succ_of_ne_zero (beq_eq_false_iff_ne.1 sz0)
theorem key_pair {a b:Int} (ha:(-2147483648:Int)≤a) (ha2:a≤2147483647) (hb:(-2147483648:Int)≤b) (hb2:b≤2147483647):∃l,keyOf Tryz.prog 167 (.agg #[.int .i32 a,.int .i32 b])=some l:=by
 have wa:(Lit.int .i32 a).wf=true:=by simp[Lit.wf,show IntKind.i32.min=-2147483648 from by decide,show IntKind.i32.max=2147483647 from by decide];omega
 have wb:(Lit.int .i32 b).wf=true:=by simp[Lit.wf,show IntKind.i32.min=-2147483648 from by decide,show IntKind.i32.max=2147483647 from by decide];omega
 obtain⟨n,hn⟩:=sz
 unfold keyOf
 simp only[Tryz.underlying167,kt167,form167,hn]
 simp[Program.keyLits,Tryz.underlying167,c21,c167,Tryz.underlying21,Value.cells,wa,wb]
theorem key_text {s:ByteArray} (h:s.size≤maxLen):∃l,keyOf Tryz.prog 111 (.string s)=some l:=⟨_,WideMaps.keyOf_string_mk Tryz.underlying111 h⟩
noncomputable def mupw (t:TypeId) (b:Nat) (k v:Value) (w:World):World:=match (Instr.mapUpdate t (.map (some b)) k v).run Tryz.prog w with| .ok _ w'=>w'| .halt _ w'=>w'
theorem MB.put {w:World} {t kt et:TypeId} {b:Nat} {f:Value→Option Value} (h:MB w kt b f) (ht:Tryz.prog.underlying t=some (.map kt et)) (K:WideMaps.KeyLaw Tryz.prog kt) {key:Value} (val:Value) {kl:Lit} (hk:keyOf Tryz.prog kt key=some kl):
 (Instr.mapUpdate t (.map (some b)) key val).run Tryz.prog w=.ok () (mupw t b key val w)∧MB (mupw t b key val w) kt b (upd f key val)∧Mod [b] w (mupw t b key val w):=by
 obtain⟨o,h1,h2⟩:=h.update ht K (val:=val) hk
 have e:mupw t b key val w={ w with heap:=w.heap.setIfInBounds b o }:=by unfold mupw;rw[h1]
 rw[e]
 refine⟨h1,h2,rfl,rfl,rfl,by simp,fun k hk hn=>?_⟩
 simp only[List.mem_singleton] at hn
 show (w.heap.setIfInBounds b o)[k]?=w.heap[k]?
 simp[Ne.symm hn]
def Rb (w:World) (base:Nat) (v:Value) (l:List UInt8):Prop:=
 (l=[]∧v=.slice none 0 0)∨∃b c cur t fr,v=.slice (some ⟨b,0,none⟩) l.length c∧base≤b∧w.heap[b]?=some (.cells cur t fr)∧∀i (hi:i<l.length),cur[i]?=some (.int .u8 ((l[i]'hi).toNat:Int))
theorem Rb.mod {w w':World} {base:Nat} {v:Value} {l:List UInt8} {S:List Nat} (h:Rb w base v l) (m:Mod S w w') (hS:∀k,k∈S→k<base∨∃es c,w.heap[k]?=some (.map es c)):Rb w' base v l:=by
 rcases h with h|⟨b,c,cur,t,fr,rfl,h0,h1,h2⟩
 ·exact .inl h
 ·refine .inr ⟨b,c,cur,t,fr,rfl,h0,(m.block b (lt_of_heap h1) (fun hk=>?_)).trans h1,h2⟩
  rcases hS b hk with g|⟨es,c,g⟩
  ·omega
  ·rw[g] at h1;cases h1
theorem Rb.base {w:World} {b1 b2:Nat} {v:Value} {l:List UInt8} (h:Rb w b1 v l) (hb:b2≤b1):Rb w b2 v l:=by
 rcases h with h|⟨b,c,cur,t,fr,h1,h0,h2⟩
 ·exact .inl h
 ·exact .inr ⟨b,c,cur,t,fr,h1,by omega,h2⟩
theorem Rb.conv {w:World} {base:Nat} {v:Value} {l:List UInt8} (h:Rb w base v l):(convert 79 9 v).run Tryz.prog w=.ok (.string ⟨l.toArray⟩) w:=by
 rcases h with ⟨rfl,rfl⟩|⟨g,c,cur,t,fr,rfl,_,h1,h0⟩
 ·exact conv_nil w
 ·have:=run_convert_bytes_arg (P:=Tryz.prog) w 79 5 Tryz.underlying79 Tryz.underlying5 g 0 l.length c (l.map fun x=>(x.toNat:Int)) (by simp) (fun i hi=>by
   rw[Nat.zero_add]
   simp[World.cell?,h1,h0 i hi,List.getD_eq_getElem?_getD,hi]) 9 Tryz.underlying9
  rw[this]
  have e:strOfNums (l.map fun x=>(x.toNat:Int))=⟨l.toArray⟩:=by
   simp[strOfNums,List.map_map,Function.comp_def]
  rw[e]
theorem Bs.rb {w:World} {base:Nat} {v:Value} {l:List UInt8} (h:Bs w base v l):Rb w base v l:=by
 obtain⟨a,c,rfl,h1⟩:=h.form
 have h0:=h
 obtain⟨_,⟨h2,h3⟩|⟨g,cap,cur,h2,h3,h4,_⟩⟩:=h
 ·have:l=[]:=List.eq_nil_of_length_eq_zero h3
  subst this
  simp only[List.length_nil,Value.slice.injEq] at h2
  obtain⟨rfl,-,rfl⟩:=h2
  exact .inl ⟨rfl,rfl⟩
 ·cases h2
  exact .inr ⟨g,_,cur,_,_,rfl,h3,h4,fun i hi=>by
   have:=h0.cell hi
   simpa [World.cell?,h4] using this⟩
theorem bytes_conv (src:TypeId) (hs:Tryz.prog.underlying src=some .string) (s:ByteArray) (w:World):(convert src 79 (.string s)).run Tryz.prog w=.ok (.slice (some ⟨w.heap.size,0,none⟩) s.size (grownCap w s.size 0 5)) (Lib.bytesWorld w 5 s):=Lib.run_convert_string_bytes w src 79 5 s hs Tryz.underlying79 Tryz.underlying5
theorem bytes_rb (s:ByteArray) (c:Nat) (w:World):Rb (Lib.bytesWorld w 5 s) w.heap.size (.slice (some ⟨w.heap.size,0,none⟩) s.size c) s.data.toList:=
 .inr ⟨w.heap.size,c,_,_,_,rfl,Nat.le_refl _,Lib.bytesWorld_at_new w 5 s,fun i hi=>by
  have:=Lib.bytesWorld_cell w 5 s i hi
  simp only[World.cell?,Lib.bytesWorld_at_new,List.getD_eq_getElem?_getD,List.getElem?_eq_getElem hi] at this
  exact this⟩
theorem bytes_mod (s:ByteArray) (w:World):Mod [] w (Lib.bytesWorld w 5 s):=⟨rfl,rfl,rfl,by rw[Lib.bytesWorld_size];omega,fun k hk _=>Lib.bytesWorld_at_old w 5 s k hk⟩
theorem MB.mod {S:List Nat} {w w':World} {kt:TypeId} {b:Nat} {f:Value→Option Value} (h:MB w kt b f) (m:Mod S w w') (hb:b∉S):MB w' kt b f:=h.turn (m.block b h.lt hb)
theorem MB.isMap {w:World} {kt:TypeId} {b:Nat} {f:Value→Option Value} (h:MB w kt b f):∃es c,w.heap[b]?=some (.map es c):=by
 obtain⟨es,clock,h1,h2⟩:=h
 exact⟨es,clock,h1⟩
end Go.Proofs.YtcpjclakdpjjfaaGreatDoor
