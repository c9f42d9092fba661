/- Plain facts about numbers in words of 64 bits: values of lists of words, long division's guesses. -/
import Derived.Test.YtcpjclakdpjjfaaGreatDoorC00
import Derived.Test.YtcpjclakdpjjfaaGreatDoorProg
import Derived.WalkKit
import Derived.WalkSpells
import Derived.WalkLawsBesides
import Derived.Lib.Hide
import Derived.Deep.QuietTactic
import Derived.BigQuiet
import Derived.Lib.SliceRun
import Derived.LaidEqlPtr
namespace Go.Proofs.YtcpjclakdpjjfaaGreatDoor
namespace Wd
@[irreducible] def B:Nat:=18446744073709551616
theorem B_eq:B=18446744073709551616:=by unfold B;rfl
theorem B_pos:0<B:=by rw[B_eq];omega
theorem B_one:1<B:=by rw[B_eq];omega
def val:List Nat→Nat
 | []=>0
 |x::xs=>x+B*val xs
def WL (xs:List Nat):Prop:=∀x∈xs,x<B
@[simp] theorem val_nil:val []=0:=rfl
theorem val_cons (x:Nat) (xs:List Nat):val (x::xs)=x+B*val xs:=rfl
theorem WL_nil:WL []:=fun _ h=>by cases h
theorem WL_cons {x:Nat} {xs:List Nat}:WL (x::xs)↔x<B∧WL xs:=by simp[WL]
theorem WL_append {xs ys:List Nat}:WL (xs++ys)↔WL xs∧WL ys:=by
 simp only[WL,List.mem_append]
 exact⟨fun h=>⟨fun x hx=>h x (.inl hx),fun x hx=>h x (.inr hx)⟩,fun h x hx=>hx.elim (h.1 x) (h.2 x)⟩
theorem WL_take {xs:List Nat} (h:WL xs) (n:Nat):WL (xs.take n):=fun x hx=>h x (List.mem_of_mem_take hx)
theorem WL_drop {xs:List Nat} (h:WL xs) (n:Nat):WL (xs.drop n):=fun x hx=>h x (List.mem_of_mem_drop hx)
theorem WL_getD {xs:List Nat} (h:WL xs) (i:Nat):xs.getD i 0<B:=by
 rw[List.getD_eq_getElem?_getD]
 cases e:xs[i]? with
 |none=>exact B_pos
 |some x=>exact h x (List.mem_of_getElem? e)
theorem WL_replicate (n:Nat) {x:Nat} (h:x<B):WL (List.replicate n x):=fun y hy=>by rw[(List.mem_replicate.1 hy).2];exact h
theorem WL_set {xs:List Nat} (h:WL xs) (i:Nat) {x:Nat} (hx:x<B):WL (xs.set i x):=fun y hy=>by
 rcases List.mem_or_eq_of_mem_set hy with h'|h'
 ·exact h y h'
 ·rw[h'];exact hx
theorem val_append (xs ys:List Nat):val (xs++ys)=val xs+B^xs.length*val ys:=by
 induction xs with
 |nil=>simp
 |cons x xs ih=>
  simp only[List.cons_append,val_cons,ih,List.length_cons,Nat.pow_succ]
  generalize B^xs.length=p at*
  generalize B=b at*
  grind -mbtc
theorem val_replicate_zero (n:Nat):val (List.replicate n 0)=0:=by
 induction n with
 |zero=>rfl
 |succ n ih=>rw[List.replicate_succ,val_cons,ih];rfl
theorem val_lt {xs:List Nat} (h:WL xs):val xs<B^xs.length:=by
 induction xs with
 |nil=>simp
 |cons x xs ih=>
  have hx:=(WL_cons.1 h).1
  have hv:=ih (WL_cons.1 h).2
  simp only[val_cons,List.length_cons,Nat.pow_succ]
  have:B*(val xs+1)≤B*B^xs.length:=Nat.mul_le_mul_left _ hv
  generalize B^xs.length=p at*
  generalize val xs=v at*
  generalize B=b at*
  grind -mbtc
theorem val_snoc (xs:List Nat) (x:Nat):val (xs++[x])=val xs+B^xs.length*x:=by
 rw[val_append,val_cons,val_nil];simp
theorem val_take_succ (xs:List Nat) (i:Nat) (h:i<xs.length):val (xs.take (i+1))=val (xs.take i)+B^i*xs[i]:=by
 rw[List.take_succ_eq_append_getElem h,val_snoc,List.length_take,Nat.min_eq_left (by omega)]
theorem val_inj {xs ys:List Nat} (hx:WL xs) (hy:WL ys) (hl:xs.length=ys.length) (hv:val xs=val ys):xs=ys:=by
 induction xs generalizing ys with
 |nil=>exact(List.length_eq_zero_iff.1 hl.symm).symm
 |cons x xs ih=>
  cases ys with
  |nil=>simp at hl
  |cons y ys=>
   have h1:=WL_cons.1 hx
   have h2:=WL_cons.1 hy
   simp only[val_cons] at hv
   have e1:x=y:=by
    have:=congrArg (· %B) hv
    simpa [Nat.add_mul_mod_self_left,Nat.mod_eq_of_lt h1.1,Nat.mod_eq_of_lt h2.1] using this
   subst e1
   have e2:val xs=val ys:=Nat.eq_of_mul_eq_mul_left B_pos (by omega)
   rw[ih h1.2 h2.2 (by simpa using hl) e2]
def Nrm (xs:List Nat):Prop:=xs.getLast?≠some 0
theorem Nrm_snoc {xs:List Nat} {x:Nat}:Nrm (xs++[x])↔x≠0:=by simp[Nrm]
theorem pow_le_val {xs:List Nat} (h:Nrm xs) (hne:xs≠[]):B^(xs.length-1)≤val xs:=by
 obtain⟨ys,y,rfl⟩:∃ys y,xs=ys++[y]:=⟨xs.dropLast,xs.getLast hne,(List.dropLast_concat_getLast hne).symm⟩
 have hy:=Nrm_snoc.1 h
 rw[val_snoc]
 simp only[List.length_append,List.length_singleton,Nat.add_sub_cancel]
 have:B^ys.length*1≤B^ys.length*y:=Nat.mul_le_mul_left _ (by omega)
 omega
theorem val_pos {xs:List Nat} (h:Nrm xs) (hne:xs≠[]):0<val xs:=
 Nat.lt_of_lt_of_le (Nat.pow_pos B_pos) (pow_le_val h hne)
theorem val_eq_zero_iff {xs:List Nat} (h:Nrm xs):val xs=0↔xs=[]:=
 ⟨fun hv=>Classical.byContradiction fun hne=>by have:=val_pos h hne;omega,fun e=>by rw[e];rfl⟩
theorem length_le_of_val {xs:List Nat} (h:Nrm xs) {k:Nat} (hv:val xs<B^k):xs.length≤k:=by
 rcases Nat.lt_or_ge k xs.length with h1|h1
 ·have hne:xs≠[]:=by intro e;simp[e] at h1
  have h2:=pow_le_val h hne
  have h3:B^k≤B^(xs.length-1):=Nat.pow_le_pow_right B_pos (by omega)
  omega
 ·exact h1
theorem recip_low {d v x1 x0 q:Nat} (h1:v*d+1≤B*B) (h2:q*B≤v*x1+x0) (hd:d<B):q*d≤x1*B+x0:=by
 have h3:q*B*d≤(v*x1+x0)*d:=Nat.mul_le_mul_right _ h2
 have h4:(v*d+1)*x1≤(B*B)*x1:=Nat.mul_le_mul_right _ h1
 have h5:x0*d≤x0*B:=Nat.mul_le_mul_left _ (by omega)
 have h6:(q*d)*B≤(x1*B+x0)*B:=by
  generalize B=b at*
  grind -mbtc
 exact Nat.le_of_mul_le_mul_right h6 B_pos
theorem recip_high {d v x1 x0 q:Nat} (h1:B*B≤v*d+d) (h2:v*x1+x0<(q+1)*B) (hd:d<B) (hx1:x1<d) (hx0:x0<B):
 x1*B+x0<q*d+B+d:=by
 have h3:(v*x1+x0+1)*d≤(q+1)*B*d:=Nat.mul_le_mul_right _ h2
 have h4:B*B*x1≤(v*d+d)*x1:=Nat.mul_le_mul_right _ h1
 have h5:(x0+1)*(B-d)≤B*(B-d):=Nat.mul_le_mul_right _ hx0
 have h6:(x1+1)*d≤d*d:=Nat.mul_le_mul_right _ hx1
 have h7:d*d≤B*d:=Nat.mul_le_mul_right _ (by omega)
 have h8:(x1*B+x0)*B<(q*d+B+d)*B:=by
  obtain⟨e,he⟩:∃e,B=d+e:=⟨B-d,by omega⟩
  have he':B-d=e:=by omega
  rw[he'] at h5
  generalize B=b at*
  subst he
  grind -mbtc
 exact Nat.lt_of_mul_lt_mul_right h8
theorem guess_dec {b q1 d1 d0 r u n0:Nat} (hr:r+q1*d1=u) (h:b*r+n0<q1*d0):u*b+n0<q1*(d1*b+d0):=by
 have:u*b=r*b+q1*d1*b:=by rw[←hr,Nat.add_mul]
 have e:q1*(d1*b+d0)=q1*d1*b+q1*d0:=by rw[Nat.mul_add,Nat.mul_assoc]
 rw[e,this,Nat.mul_comm r b];omega
theorem guess_ok {b q1 d1 d0 r u n0:Nat} (hr:r+q1*d1=u) (h:q1*d0≤b*r+n0):q1*(d1*b+d0)≤u*b+n0:=by
 have:u*b=r*b+q1*d1*b:=by rw[←hr,Nat.add_mul]
 have e:q1*(d1*b+d0)=q1*d1*b+q1*d0:=by rw[Nat.mul_add,Nat.mul_assoc]
 rw[e,this,Nat.mul_comm r b];omega
theorem guess_first {b d1 d0 u n0 q:Nat} (hd:0<d1) (hn:n0<b) (hq:q*(d1*b+d0)≤u*b+n0):q≤u/d1:=by
 rw[Nat.le_div_iff_mul_le hd]
 have h1:q*d1*b≤u*b+n0:=by
  have:q*(d1*b+d0)=q*d1*b+q*d0:=by rw[Nat.mul_add,Nat.mul_assoc]
  omega
 have h2:q*d1*b<(u+1)*b:=by rw[Nat.add_mul];omega
 exact Nat.le_of_lt_succ (Nat.lt_of_mul_lt_mul_right h2)
theorem guess_high {b d1 d0 u:Nat} (hd:b≤2*d1) (h0:d0<b) (hu:u<d1*b+d0):u/d1≤b+1:=by
 have hd1:0<d1:=by omega
 have:u/d1<b+2:=by
  rw[Nat.div_lt_iff_lt_mul hd1]
  have:(b+2)*d1=d1*b+2*d1:=by rw[Nat.add_mul,Nat.mul_comm b]
  omega
 omega
theorem guess_refined {v2 u3 q m U V:Nat} (hq:q*v2≤u3) (hb:q≤v2+1) (hV:V<(v2+1)*m) (hU:u3*m≤U):(q-1)*V≤U:=by
 rcases Nat.eq_zero_or_pos q with h|h
 ·subst h;simp
 ·have h1:(q-1)*(v2+1)≤u3:=by
   obtain⟨p,rfl⟩:∃p,q=p+1:=⟨q-1,by omega⟩
   rw[Nat.add_sub_cancel,Nat.mul_add]
   rw[Nat.add_mul] at hq
   omega
  calc (q-1)*V≤(q-1)*((v2+1)*m):=Nat.mul_le_mul_left _ (Nat.le_of_lt hV)
   _=(q-1)*(v2+1)*m:=(Nat.mul_assoc _ _ _).symm
   _≤u3*m:=Nat.mul_le_mul_right _ h1
   _≤U:=hU
theorem guess_top {v1 m V U:Nat} (hv:B≤2*v1+2) (hV:V<(v1+1)*m) (hU:v1*B*m≤U):(B-2)*V≤U:=by
 have h1:(B-2)*(v1+1)≤v1*B:=by
  have h2:=B_one
  generalize B=b at*
  obtain⟨c,rfl⟩:∃c,b=c+2:=⟨b-2,by omega⟩
  rw[Nat.add_sub_cancel,Nat.mul_add,Nat.mul_add,Nat.mul_comm v1]
  omega
 calc (B-2)*V≤(B-2)*((v1+1)*m):=Nat.mul_le_mul_left _ (Nat.le_of_lt hV)
  _=(B-2)*(v1+1)*m:=(Nat.mul_assoc _ _ _).symm
  _≤v1*B*m:=Nat.mul_le_mul_right _ h1
  _≤U:=hU
theorem divWW_law {d m x1 x0:Nat} (hd:d<B) (hn:B≤2*d) (hm:m=(B*B-1)/d-B) (hx1:x1<d) (hx0:x0<B):
 let q:=x1+(m*x1+x0)/B
 let N:=x1*B+x0
 q*d≤N∧N<q*d+B+d:=by
 intro q N
 have hd0:0<d:=by omega
 have hBB:B≤B*B:=Nat.le_mul_of_pos_left _ B_pos
 have hv1:B≤(B*B-1)/d:=by
  rw[Nat.le_div_iff_mul_le hd0]
  have:B*d≤B*(B-1):=Nat.mul_le_mul_left _ (by omega)
  have e:B*(B-1)+B=B*B:=by
   have:=B_pos
   generalize B=b at*
   obtain⟨c,rfl⟩:∃c,b=c+1:=⟨b-1,by omega⟩
   rw[Nat.add_sub_cancel];simp only[Nat.mul_add,Nat.add_mul];omega
  have:=B_one
  omega
 have hvm:(B*B-1)/d=m+B:=by omega
 have hlow:(m+B)*d+1≤B*B:=by
  have:=Nat.div_mul_le_self (B*B-1) d
  rw[hvm] at this
  have:=B_one
  omega
 have hhigh:B*B≤(m+B)*d+d:=by
  have:=Nat.lt_div_mul_add (a:=B*B-1) hd0
  rw[hvm] at this
  omega
 have hq:q*B≤(m+B)*x1+x0∧(m+B)*x1+x0<(q+1)*B:=by
  have h1:=Nat.div_add_mod (m*x1+x0) B
  have h2:=Nat.mod_lt (m*x1+x0) B_pos
  have e:q*B=x1*B+B*((m*x1+x0)/B):=by show (x1+_)*B=_;rw[Nat.add_mul,Nat.mul_comm B]
  have e2:(m+B)*x1=m*x1+x1*B:=by rw[Nat.add_mul,Nat.mul_comm B]
  have e3:(q+1)*B=q*B+B:=by rw[Nat.add_mul,Nat.one_mul]
  rw[e3,e,e2];omega
 exact⟨recip_low hlow hq.1 hd,recip_high hhigh hq.2 hd hx1 hx0⟩
end Wd
end Go.Proofs.YtcpjclakdpjjfaaGreatDoor
namespace Go.Proofs.YtcpjclakdpjjfaaGreatDoor
open Go.RowKit Wd
structure Mod (S:List Nat) (w w':World):Prop where
 os:w'.os=w.os
 tape:w'.tape=w.tape
 output:w'.output=w.output
 size:w.heap.size≤w'.heap.size
 block:∀k,k<w.heap.size→k∉S→w'.heap[k]?=w.heap[k]?
theorem Mod.refl (S:List Nat) (w:World):Mod S w w:=⟨rfl,rfl,rfl,Nat.le_refl _,fun _ _ _=>rfl⟩
theorem Mod.step {S S':List Nat} {a b c:World} (h:Mod S a b) (k:Mod S' b c) (hs:∀x,x∈S'→x∈S∨a.heap.size≤x):Mod S a c:=
 ⟨k.os.trans h.os,k.tape.trans h.tape,k.output.trans h.output,Nat.le_trans h.size k.size,fun i hi hS=>
  (k.block i (Nat.lt_of_lt_of_le hi h.size) fun hm=>(hs i hm).elim hS fun hge=>by omega).trans (h.block i hi hS)⟩
theorem Mod.trans {S:List Nat} {a b c:World} (h:Mod S a b) (k:Mod S b c):Mod S a c:=h.step k fun _=>.inl
theorem Mod.mono {S S':List Nat} {a b:World} (h:Mod S a b) (hs:∀x,x∈S→x∈S'∨a.heap.size≤x):Mod S' a b:=
 (Mod.refl S' a).step h hs
theorem Mod.drewN {S:List Nat} {a b:World} (h:Mod S a b) (n:Nat):Mod S a (b.drewN n):=⟨h.os,h.tape,h.output,h.size,h.block⟩
theorem Mod.drew {S:List Nat} {a b:World} (h:Mod S a b):Mod S a b.drew:=⟨h.os,h.tape,h.output,h.size,h.block⟩
theorem Mod.alloc {S:List Nat} {a b:World} (h:Mod S a b) (o:Obj):Mod S a (b.alloc o):=
 h.trans ⟨rfl,rfl,rfl,by simp,fun k hk _=>Below.heap_alloc _ _ _ hk⟩
theorem Mod.setCell {S:List Nat} {a b:World} (h:Mod S a b) {p:Addr} (u:Value) (hp:p.block∈S∨a.heap.size≤p.block):Mod S a (b.setCell p u):=
 h.step (S':=[p.block]) ⟨rfl,rfl,rfl,by simp,fun k _ hk=>Below.heap_setCell _ _ _ _ (by simpa using hk)⟩ (fun x hx=>by rw[List.mem_singleton.1 hx];exact hp)
theorem Mod.cell {S:List Nat} {a b:World} (h:Mod S a b) {p:Addr} (hp:p.block<a.heap.size) (hS:p.block∉S):b.cell? p=a.cell? p:=
 World.cell?_of_block (w:=a) (h.block _ hp hS)
theorem Mod.below {w w':World} (h:Mod [] w w'):Below w.heap.size w w':=⟨h.os,h.tape,h.output,h.size,fun k hk=>h.block k hk (by simp)⟩
theorem Mod.of_below {B0:Nat} {w w':World} (h:Below B0 w w') (hB:w.heap.size≤B0):Mod [] w w':=⟨h.os,h.tape,h.output,h.size,fun k hk _=>h.block k (by omega)⟩
theorem u64_wrap (z:Int):IntKind.u64.wrap z=z%(B:Int):=by rw[IntKind.wrap_u64,B_eq];rfl
theorem u64_nat {n:Nat} (h:n<B):IntKind.u64.wrap (n:Int)=n:=by rw[u64_wrap];exact Int.emod_eq_of_lt (by omega) (by omega)
theorem u64_any (z:Int):∃n:Nat,IntKind.u64.wrap z=n∧n<B∧(n:Int)=z%(B:Int):=by
 have h:=Int.emod_nonneg z (show (B:Int)≠0 by have:=B_pos;omega)
 have h2:=Int.emod_lt_of_pos z (show 0<(B:Int) by have:=B_pos;omega)
 obtain⟨n,hn⟩:=Int.eq_ofNat_of_zero_le h
 exact⟨n,by rw[u64_wrap,hn],by omega,hn.symm⟩
def wat (ws:List Nat) (i:Nat):Nat:=ws.getD i 0
theorem wat_eq {ws:List Nat} {i:Nat} (h:i<ws.length):wat ws i=ws[i]:=by simp[wat,List.getD_eq_getElem?_getD,List.getElem?_eq_getElem h]
theorem wat_lt {ws:List Nat} (h:WL ws) (i:Nat):wat ws i<B:=WL_getD h i
def wc (ws:List Nat):Array Value:=(ws.map fun n:Nat=>Value.int .u64 (n:Int)).toArray
structure Blk (w:World) (b:Nat) (ws:List Nat):Prop where
 heap:w.heap[b]?=some (.cells (wc ws) 177 (0,0))
 wl:WL ws
 cap:ws.length≤9223372036854775807
theorem lt_of_heap {w:World} {b:Nat} {o:Obj} (h:w.heap[b]?=some o):b<w.heap.size:=lt_of_block h
theorem Blk.lt {w:World} {b:Nat} {ws:List Nat} (h:Blk w b ws):b<w.heap.size:=lt_of_block h.heap
theorem Blk.mod {S:List Nat} {w w':World} {b:Nat} {ws:List Nat} (h:Blk w b ws) (m:Mod S w w') (hb:b∉S):Blk w' b ws:=
 ⟨(m.block b h.lt hb).trans h.heap,h.wl,h.cap⟩
theorem Blk.drewN {w:World} {b:Nat} {ws:List Nat} (h:Blk w b ws) (n:Nat):Blk (w.drewN n) b ws:=⟨h.heap,h.wl,h.cap⟩
theorem Blk.cell {w:World} {b:Nat} {ws:List Nat} (h:Blk w b ws) {i:Nat} (hi:i<ws.length):w.cell? ⟨b,i,none⟩=some (.int .u64 (wat ws i:Nat)):=by
 simp[World.cell?,h.heap,wc,wat,List.getD_eq_getElem?_getD,List.getElem?_eq_getElem hi]
theorem Blk.free {w:World} {b:Nat} {ws:List Nat} (h:Blk w b ws) (i:Nat):w.frozen? ⟨b,i,none⟩=false:=by
 simp[World.frozen?,h.heap]
theorem heap_setCell_same {w:World} {b:Nat} {c:Array Value} {t:TypeId} {fr:Nat×Nat} (h:w.heap[b]?=some (.cells c t fr)) (i:Nat) (v:Value):
 (w.setCell ⟨b,i,none⟩ v).heap[b]?=some (.cells (c.setIfInBounds i v) t fr):=by
 simp only[World.setCell,Array.getElem?_modify,if_true,h,Option.map_some]
 rfl
theorem Blk.set {w:World} {b:Nat} {ws:List Nat} (h:Blk w b ws) (i:Nat) {x:Nat} (hx:x<B):Blk (w.setCell ⟨b,i,none⟩ (.int .u64 (x:Int))) b (ws.set i x):=by
 refine⟨?_,WL_set h.wl i hx,by rw[List.length_set];exact h.cap⟩
 rw[heap_setCell_same h.heap]
 simp[wc,List.map_set]
theorem Blk.set_other {w:World} {b:Nat} {ws:List Nat} (h:Blk w b ws) {a:Addr} (ha:a.block≠b) (v:Value):Blk (w.setCell a v) b ws:=
 ⟨by rw[Below.heap_setCell _ _ _ _ (Ne.symm ha)];exact h.heap,h.wl,h.cap⟩
theorem Blk.alloc {w:World} {b:Nat} {ws:List Nat} (h:Blk w b ws) (o:Obj):Blk (w.alloc o) b ws:=
 ⟨by rw[Below.heap_alloc _ _ _ h.lt];exact h.heap,h.wl,h.cap⟩
def spl (zs:List Nat) (o:Nat) (rs:List Nat):List Nat:=zs.take o++rs++zs.drop (o+rs.length)
theorem spl_nil (zs:List Nat) (o:Nat):spl zs o []=zs:=by simp[spl]
theorem spl_length {zs:List Nat} {o:Nat} {rs:List Nat} (h:o+rs.length≤zs.length):(spl zs o rs).length=zs.length:=by
 simp[spl];omega
theorem spl_snoc {zs:List Nat} {o:Nat} {rs:List Nat} (h:o+rs.length<zs.length) (x:Nat):(spl zs o rs).set (o+rs.length) x=spl zs o (rs++[x]):=by
 have e:zs.drop (o+rs.length)=zs[o+rs.length]::zs.drop (o+rs.length+1):=List.drop_eq_getElem_cons h
 simp only[spl,e]
 rw[List.set_append_right _ _ (by simp;omega)]
 have e2:o+rs.length-(List.take o zs++rs).length=0:=by simp;omega
 rw[e2,List.set_cons_zero,List.length_append,List.length_singleton]
 simp[Nat.add_assoc]
theorem wat_spl_ge {zs:List Nat} {o:Nat} {rs:List Nat} {i:Nat} (h:o+rs.length≤i) (hz:o+rs.length≤zs.length):wat (spl zs o rs) i=wat zs i:=by
 simp only[wat,spl,List.getD_eq_getElem?_getD]
 rw[List.getElem?_append_right (by simp;omega)]
 have e:i-(List.take o zs++rs).length=i-(o+rs.length):=by simp;omega
 rw[e,List.getElem?_drop]
 congr 2;omega
theorem wat_spl_lt {zs:List Nat} {o:Nat} {rs:List Nat} {i:Nat} (h:i<o) (hz:o≤zs.length):wat (spl zs o rs) i=wat zs i:=by
 simp only[wat,spl,List.getD_eq_getElem?_getD]
 rw[List.append_assoc,List.getElem?_append_left (by simp;omega),List.getElem?_take_of_lt h]
theorem Blk.unique {w:World} {b:Nat} {xs ys:List Nat} (h:Blk w b xs) (k:Blk w b ys):xs=ys:=by
 have e:=h.heap.symm.trans k.heap
 simp only[Option.some.injEq,Obj.cells.injEq,wc,and_true] at e
 have e2:xs.map (fun n:Nat=>Value.int .u64 (n:Int))=ys.map (fun n:Nat=>Value.int .u64 (n:Int)):=by simpa using e
 refine List.map_inj_right (fun a b hab=>?_) |>.1 e2
 simp only[Value.int.injEq,true_and] at hab
 omega
theorem read_after {w wi:World} {bx bz ox oz i:Nat} {xs zs rs:List Nat} (hx:Blk w bx xs) (hz:Blk w bz zs) (m:Mod [bz] w wi) (hzi:Blk wi bz (spl zs oz rs))
 (hal:bx=bz→oz≤ox) (hl:rs.length≤i) (hi:ox+i<xs.length) (hzl:oz+rs.length≤zs.length):wi.cell? ⟨bx,ox+i,none⟩=some (.int .u64 (wat xs (ox+i):Nat)):=by
 by_cases e:bx=bz
 ·subst e
  obtain rfl:=hx.unique hz
  rw[hzi.cell (by rw[spl_length hzl];exact hi),wat_spl_ge (by have:=hal rfl;omega) hzl]
 ·exact(hx.mod m (by simpa using e)).cell hi
theorem read_apart {w wi:World} {bx bz ox oz i n:Nat} {xs zs rs:List Nat} (hx:Blk w bx xs) (hz:Blk w bz zs) (m:Mod [bz] w wi) (hzi:Blk wi bz (spl zs oz rs))
 (hal:bx=bz→oz≤ox∨ox+n≤oz) (hin:i<n) (hl:rs.length≤i) (hi:ox+i<xs.length) (hzl:oz+rs.length≤zs.length):wi.cell? ⟨bx,ox+i,none⟩=some (.int .u64 (wat xs (ox+i):Nat)):=by
 by_cases e:bx=bz
 ·subst e
  obtain rfl:=hx.unique hz
  rcases hal rfl with h|h
  ·rw[hzi.cell (by rw[spl_length hzl];exact hi),wat_spl_ge (by omega) hzl]
  ·rw[hzi.cell (by rw[spl_length hzl];exact hi),wat_spl_lt (by omega) (by omega)]
 ·exact(hx.mod m (by simpa using e)).cell hi
def seg (xs:List Nat) (o n:Nat):List Nat:=(xs.drop o).take n
theorem seg_length {xs:List Nat} {o n:Nat} (h:o+n≤xs.length):(seg xs o n).length=n:=by simp[seg];omega
theorem WL_seg {xs:List Nat} (h:WL xs) (o n:Nat):WL (seg xs o n):=WL_take (WL_drop h _) _
theorem seg_zero (xs:List Nat) (o:Nat):seg xs o 0=[]:=by simp[seg]
theorem seg_all (xs:List Nat) (n:Nat):seg xs 0 n=xs.take n:=by simp[seg]
theorem seg_succ {xs:List Nat} {o n:Nat} (h:o+n<xs.length):seg xs o (n+1)=seg xs o n++[wat xs (o+n)]:=by
 simp only[seg]
 rw[List.take_succ_eq_append_getElem (by simp;omega),wat_eq h,List.getElem_drop]
theorem val_seg_succ {xs:List Nat} {o n:Nat} (h:o+n<xs.length):val (seg xs o (n+1))=val (seg xs o n)+B^n*wat xs (o+n):=by
 rw[seg_succ h,val_snoc,seg_length (by omega)]
theorem seg_spl {zs:List Nat} {o:Nat} {rs:List Nat} (h:o+rs.length≤zs.length):seg (spl zs o rs) o rs.length=rs:=by
 simp only[seg,spl,List.append_assoc]
 rw[List.drop_left' (by simp;omega),List.take_left' rfl]
end Go.Proofs.YtcpjclakdpjjfaaGreatDoor
namespace Go.Proofs.YtcpjclakdpjjfaaGreatDoor
open Go.RowKit Wd
theorem wc_size (ws:List Nat):(wc ws).size=ws.length:=by simp[wc]
theorem info177:(Tryz.prog.info? 177).map (·.size)=some 1:=by kernel_rfl
theorem wat_seg {xs:List Nat} {o n j:Nat} (hj:j<n) (h:o+n≤xs.length):(seg xs o n)[j]?=some (wat xs (o+j)):=by
 simp only[seg]
 rw[List.getElem?_take_of_lt hj,List.getElem?_drop,List.getElem?_eq_getElem (by omega),wat_eq (by omega)]
theorem copy_words (w:World) (dT sT bz oz nz cz bx ox nx cx k:Nat) (zs xs:List Nat) (hd:Tryz.prog.underlying dT=some (.slice 177)) (hz:Blk w bz zs) (hx:Blk w bx xs)
 (hk:k=Nat.min nx nz) (hzl:oz+k≤zs.length) (hxl:ox+k≤xs.length):
 ∃w1,(Builtin.copy_ #[dT,sT] 3 #[.slice (some ⟨bz,oz,none⟩) nz cz,.slice (some ⟨bx,ox,none⟩) nx cx]).run Tryz.prog w=.ok (.int .i64 (k:Nat)) w1∧Mod [bz] w w1∧Blk w1 bz (spl zs oz (seg xs ox k)):=by
 have hl:(seg xs ox k).length=k:=seg_length hxl
 have key:=run_copy_row (P:=Tryz.prog) w dT sT 3 177 bz oz nz cz ⟨bx,ox,none⟩ nx cx (wc zs) 177 ((seg xs ox k).map fun n:Nat=>Value.int .u64 (n:Int)) hd info177 hz.heap (by rw[List.length_map,hl];exact hk)
  (fun j v hj=>by
   have hjk:j<k:=by
    rcases Nat.lt_or_ge j k with h|h
    ·exact h
    ·rw[List.getElem?_eq_none (by simp[hl];exact h)] at hj;cases hj
   rw[List.getElem?_map,wat_seg hjk hxl] at hj
   cases hj
   have hadd:(⟨bx,ox,none⟩:Addr).add j=⟨bx,ox+j,none⟩:=by unfold Addr.add;split<;>simp_all
   rw[hadd];exact hx.cell (by omega)) (by simp[hl,wc_size];omega) (fun v hv=>by
   obtain⟨n,_,rfl⟩:=List.mem_map.1 hv;rfl)
 rw[List.length_map,hl] at key
 refine⟨_,key,⟨rfl,rfl,rfl,by simp[World.setRow],fun i hi hne=>setRow_other _ _ _ _ (by simpa using hne)⟩,?_,?_,by rw[spl_length (by rw[hl];exact hzl)];exact hz.cap⟩
 ·rw[setRow_heap _ _ _ _ _ _ hz.heap]
  simp[wc,spl,hl,List.map_take,List.map_drop]
 ·simp only[spl]
  exact WL_append.2 ⟨WL_append.2 ⟨WL_take hz.wl _,WL_seg hx.wl _ _⟩,WL_drop hz.wl _⟩
theorem copy_none (w:World) (dT sT:TypeId) (d a:Option Addr) (nz cz nx cx:Nat) (hd:Tryz.prog.underlying dT=some (.slice 177)) (h:Nat.min nx nz=0):
 (Builtin.copy_ #[dT,sT] 3 #[.slice d nz cz,.slice a nx cx]).run Tryz.prog w=.ok (.int .i64 0) w:=run_copy_none w dT sT 3 177 d a nz cz nx cx hd info177 h
theorem setCells_words (b:Nat):∀(n o:Nat) (zs:List Nat) (w:World),Blk w b zs→o+n≤zs.length→
 Mod [b] w (w.setCells b o (List.replicate n (.int .u64 0)))∧Blk (w.setCells b o (List.replicate n (.int .u64 0))) b (spl zs o (List.replicate n 0))
 |0,o,zs,w,h,_=>⟨Mod.refl _ _,by rw[List.replicate_zero,List.replicate_zero,spl_nil];exact h⟩
 |n+1,o,zs,w,h,hl=>by
  have h1:=h.set o (x:=0) B_pos
  obtain⟨m,k⟩:=setCells_words b n (o+1) (zs.set o 0) _ h1 (by simp;omega)
  refine⟨((Mod.refl [b] w).setCell (p:=⟨b,o,none⟩) _ (.inl (by simp))).trans m,?_⟩
  have e:spl (zs.set o 0) (o+1) (List.replicate n 0)=spl zs o (List.replicate (n+1) 0):=by
   simp only[spl,List.length_replicate,List.replicate_succ]
   rw[List.take_set,List.drop_set_of_lt (by omega),List.take_succ_eq_append_getElem (by omega),List.set_append_right _ _ (by simp;omega)]
   simp[Nat.min_eq_left (show o≤zs.length by omega),Nat.add_assoc,Nat.add_comm 1 n]
  rw[←e];exact k
theorem clear_words (w:World) (t b o n c:Nat) (zs:List Nat) (ht:Tryz.prog.underlying t=some (.slice 177)) (hz:Blk w b zs) (hn:0<n) (hl:o+n≤zs.length):
 ∃w1,(Builtin.clear_ #[t] 0 #[.slice (some ⟨b,o,none⟩) n c]).run Tryz.prog w=.ok (.tuple #[]) w1∧Mod [b] w w1∧Blk w1 b (spl zs o (List.replicate n 0)):=by
 obtain⟨m,k⟩:=setCells_words b n o zs w hz hl
 exact⟨_,Lib.run_clear_slice w t 177 0 (.int .u64 0) ht (fun _=>by kernel_rfl) rfl rfl b o n c hn (fun j hj=>by rw[hz.cell (by omega)];rfl) (fun j _=>hz.free _),m,k⟩
theorem ptr_eql (w:World) {tp te:TypeId} {j:TypeInfo} {a b:Addr} {ca cb:Array Value} {ta tb:TypeId} (hp:Tryz.prog.underlying tp=some (.pointer te)) (hte:Tryz.prog.info? te=some j) (hsz:j.size≠0)
 (ha:w.heap[a.block]?=some (.cells ca ta (0,0))) (hb:w.heap[b.block]?=some (.cells cb tb (0,0))):
 (binOp .eql tp (.pointer (some a)) (.pointer (some b))).run Tryz.prog w=.ok (.bool (decide (a=b))) w:=by
 by_cases e:a=b
 ·subst e;rw[run_eql_ptr_same w a hp hte];simp
 ·rw[run_eql_ptr_other w hp hte hsz e ha hb];simp[e]
theorem ptr_neq (w:World) {tp te:TypeId} {j:TypeInfo} {a b:Addr} {ca cb:Array Value} {ta tb:TypeId} (hp:Tryz.prog.underlying tp=some (.pointer te)) (hte:Tryz.prog.info? te=some j) (hsz:j.size≠0)
 (ha:w.heap[a.block]?=some (.cells ca ta (0,0))) (hb:w.heap[b.block]?=some (.cells cb tb (0,0))):
 (binOp .neq tp (.pointer (some a)) (.pointer (some b))).run Tryz.prog w=.ok (.bool (!decide (a=b))) w:=by
 have h:∀d:Nat,(Op.equalIn (d+1) tp (.pointer (some a)) (.pointer (some b))).run Tryz.prog w=.ok (decide (a=b)) w:=fun d=>by
  by_cases e:a=b
  ·subst e;simp[Op.equalIn,run_underlying hp,sizeOf,typeInfo,hte,run_sameAddr_same]
  ·simp[Op.equalIn,run_underlying hp,sizeOf,typeInfo,hte,hsz,run_sameAddr_other w e ha hb,e]
 simp only[binOp]
 simp[Op.equal,Op.maxDepth,h 9999]
theorem info177':∃j,Tryz.prog.info? 177=some j∧j.size≠0:=by
 obtain⟨j,hj,hs⟩:=Option.map_eq_some_iff.1 info177
 exact⟨j,hj,by rw[hs];decide⟩
theorem wptr_eql {w:World} {b o b' o':Nat} {xs ys:List Nat} (h:Blk w b xs) (h':Blk w b' ys):
 (binOp .eql 264 (.pointer (some ⟨b,o,none⟩)) (.pointer (some ⟨b',o',none⟩))).run Tryz.prog w=.ok (.bool (decide (b=b'∧o=o'))) w:=by
 obtain⟨j,hj,hs⟩:=info177'
 rw[ptr_eql w Tryz.underlying264 hj hs h.heap h'.heap]
 simp
theorem wptr_neq {w:World} {b o b' o':Nat} {xs ys:List Nat} (h:Blk w b xs) (h':Blk w b' ys):
 (binOp .neq 264 (.pointer (some ⟨b,o,none⟩)) (.pointer (some ⟨b',o',none⟩))).run Tryz.prog w=.ok (.bool (!decide (b=b'∧o=o'))) w:=by
 obtain⟨j,hj,hs⟩:=info177'
 rw[ptr_neq w Tryz.underlying264 hj hs h.heap h'.heap]
 simp
end Go.Proofs.YtcpjclakdpjjfaaGreatDoor
