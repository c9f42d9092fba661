/- Whole numbers (bigall/int. -/
import Derived.Test.YtcpjclakdpjjfaaGreatDoorC11
import Derived.RegionTactic
import Derived.BigRegion
set_option maxHeartbeats 8000000
set_option maxRecDepth 10000
namespace Go.Proofs.YtcpjclakdpjjfaaGreatDoor
open Go.RowKit Wd
structure QRInt (w:World) (bz br:Nat) (vz vr:Value) (sz sr:Option Int) (q r:Int) (v v2:Value) (w':World):Prop where
 q:IA w' bz sz q v
 r:IA w' br sr r v2
 mod:Mod (bz::br::(sb vz++sb vr)) w w'
 ownq:∀k,k∈sb v→k∈sb vz∨w.heap.size≤k
 ownr:∀k,k∈sb v2→k∈sb vr∨w.heap.size≤k
 apart:∀k,k∈sb v→k∉sb v2
def QRIRet (w:World) (bz br:Nat) (vz vr:Value) (sz sr:Option Int) (q r:Int) (e:Ending) (w':World):Prop:=
 e=.returned (.tuple #[.pointer (some ⟨bz,0,none⟩),.pointer (some ⟨br,0,none⟩)])∧∃v v2,QRInt w bz br vz vr sz sr q r v v2 w'
theorem QRInt.drewN {w w':World} {bz br:Nat} {vz vr:Value} {sz sr:Option Int} {q r:Int} {v v2:Value} (h:QRInt w bz br vz vr sz sr q r v v2 w') (k:Nat):QRInt w bz br vz vr sz sr q r v v2 (w'.drewN k):=
 ⟨h.q.drewN k,h.r.drewN k,h.mod.drewN k,h.ownq,h.ownr,h.apart⟩
theorem QRes.header {w w2:World} {vz vr:Value} {q r:Nat} {v v2:Value} {k:Nat} (h:QRes (w.drewN k) vz vr [] q r v v2 w2) (zz:Zs w vz) (zr:Zs w vr) {b:Nat} {s:Option Int} {n:Int} {u:Value} (k0:IA w b s n u):Hd w2 b (hty s) (hdr s (decide (n<0)) u):=
 k0.hd.mod ((((Mod.refl [] w).drewN k).mono (by simp)).trans h.mod) (by simp only[List.append_nil,List.mem_append,not_or];exact⟨k0.not_sb zz,k0.not_sb zr⟩)
theorem quo_fin {w w2:World} {bz br:Nat} {vz vr:Value} {sz sr:Option Int} {nz nr q r:Int} {v v2:Value} {k:Nat} (hz:IA w bz sz nz vz) (hr:IA w br sr nr vr) (hne:bz≠br)
 (h:QRes (w.drewN k) vz vr [] q.natAbs r.natAbs v v2 w2):
 QRInt w bz br vz vr sz sr q r v v2 ((((w2.setCell ⟨bz,1,none⟩ v).setCell ⟨br,1,none⟩ v2).setCell ⟨bz,0,none⟩ (.bool (decide (q<0)))).setCell ⟨br,0,none⟩ (.bool (decide (r<0)))):=by
 have h1:=h.header hz.nv.zs hr.nv.zs hz
 have h2:=h.header hz.nv.zs hr.nv.zs hr
 have bzv:bz∉sb v∧br∉sb v:=⟨fun hm=>(h.ownq bz hm).elim (hz.not_sb hz.nv.zs) (fun hs=>by have:=hz.lt;simp at hs;omega),fun hm=>(h.ownq br hm).elim (hr.not_sb hz.nv.zs) (fun hs=>by have:=hr.lt;simp at hs;omega)⟩
 have brv:bz∉sb v2∧br∉sb v2:=⟨fun hm=>(h.ownr bz hm).elim (hz.not_sb hr.nv.zs) (fun hs=>by have:=hz.lt;simp at hs;omega),fun hm=>(h.ownr br hm).elim (hr.not_sb hr.nv.zs) (fun hs=>by have:=hr.lt;simp at hs;omega)⟩
 have m:Mod [bz,br] w2 ((((w2.setCell ⟨bz,1,none⟩ v).setCell ⟨br,1,none⟩ v2).setCell ⟨bz,0,none⟩ (.bool (decide (q<0)))).setCell ⟨br,0,none⟩ (.bool (decide (r<0)))):=
  ((((Mod.refl [bz,br] w2).setCell _ (.inl (by simp))).setCell _ (.inl (by simp))).setCell _ (.inl (by simp))).setCell _ (.inl (by simp))
 have hne2:br≠bz:=hne.symm
 have g1:Hd ((((w2.setCell ⟨bz,1,none⟩ v).setCell ⟨br,1,none⟩ v2).setCell ⟨bz,0,none⟩ (.bool (decide (q<0)))).setCell ⟨br,0,none⟩ (.bool (decide (r<0)))) bz (hty sz) (hdr sz (decide (q<0)) v):=by
  have a1:=(h1.set 1 v).mod ((Mod.refl [br] _).setCell (p:=⟨br,1,none⟩) v2 (.inl (by simp))) (by simp[hne])
  have a2:=(a1.set 0 (.bool (decide (q<0)))).mod ((Mod.refl [br] _).setCell (p:=⟨br,0,none⟩) (.bool (decide (r<0))) (.inl (by simp))) (by simp[hne])
  rw[hdr_set1,hdr_set0] at a2
  exact a2
 have g2:Hd ((((w2.setCell ⟨bz,1,none⟩ v).setCell ⟨br,1,none⟩ v2).setCell ⟨bz,0,none⟩ (.bool (decide (q<0)))).setCell ⟨br,0,none⟩ (.bool (decide (r<0)))) br (hty sr) (hdr sr (decide (r<0)) v2):=by
  have a1:=h2.mod ((Mod.refl [bz] w2).setCell (p:=⟨bz,1,none⟩) v (.inl (by simp))) (by simp[hne2])
  have a2:=(a1.set 1 v2).mod ((Mod.refl [bz] _).setCell (p:=⟨bz,0,none⟩) (.bool (decide (q<0))) (.inl (by simp))) (by simp[hne2])
  have a3:=a2.set 0 (.bool (decide (r<0)))
  rw[hdr_set1,hdr_set0] at a3
  exact a3
 refine⟨⟨g1,h.q.mod m (fun j hj hb=>?_),hz.lo,fun j hj=>(h.ownq j hj).elim (hz.vlo j) (fun hs=>by have:=hz.lo;have:=hz.lt;simp at hs;omega)⟩,
  ⟨g2,h.r.mod m (fun j hj hb=>?_),hr.lo,fun j hj=>(h.ownr j hj).elim (hr.vlo j) (fun hs=>by have:=hr.lo;have:=hr.lt;simp at hs;omega)⟩,?_,h.ownq,h.ownr,h.apart⟩
 ·simp only[List.mem_cons,List.not_mem_nil,or_false] at hb
  rcases hb with rfl|rfl
  ·exact bzv.1 hj
  ·exact bzv.2 hj
 ·simp only[List.mem_cons,List.not_mem_nil,or_false] at hb
  rcases hb with rfl|rfl
  ·exact brv.1 hj
  ·exact brv.2 hj
 ·refine((((Mod.refl _ w).drewN k).step h.mod (fun x hx=>.inl (by simp at hx;simp[hx]))).step m (fun x hx=>.inl (by simp at hx;rcases hx with rfl|rfl<;>simp)))
theorem quo_cells {w w2:World} {bz bx bY br:Nat} {vz vx vy vr:Value} {sz sx sy sr:Option Int} {nz nx ny nr:Int} {q r:Nat} {v v2:Value} {k:Nat} (hz:IA w bz sz nz vz) (hx:IA w bx sx nx vx) (hy:IA w bY sy ny vy) (hr:IA w br sr nr vr)
 (h1:bz≠bx) (h2:bz≠bY) (h3:bz≠br) (h4:bx≠br) (h5:bY≠br) (h:QRes (w.drewN k) vz vr [] q r v v2 w2):
 let w3:=(w2.setCell ⟨bz,1,none⟩ v).setCell ⟨br,1,none⟩ v2
 w3.cell? ⟨bz,1,none⟩=some v∧w3.cell? ⟨br,1,none⟩=some v2∧w3.cell? ⟨bx,0,none⟩=some (.bool (decide (nx<0)))∧w3.cell? ⟨bY,0,none⟩=some (.bool (decide (ny<0)))∧
 w3.cell? ⟨bz,0,none⟩=some (.bool (decide (nz<0)))∧w3.frozen? ⟨bz,0,none⟩=false∧w3.cell? ⟨br,0,none⟩=some (.bool (decide (nr<0)))∧w3.frozen? ⟨br,0,none⟩=false:=by
 have a1:=((h.header hz.nv.zs hr.nv.zs hz).set 1 v).mod ((Mod.refl [br] _).setCell (p:=⟨br,1,none⟩) v2 (.inl (by simp))) (by simp[h3])
 rw[hdr_set1] at a1
 have a2:=((h.header hz.nv.zs hr.nv.zs hr).mod ((Mod.refl [bz] w2).setCell (p:=⟨bz,1,none⟩) v (.inl (by simp))) (by simp[h3.symm])).set 1 v2
 rw[hdr_set1] at a2
 have a3:=((h.header hz.nv.zs hr.nv.zs hx).mod ((Mod.refl [bz] w2).setCell (p:=⟨bz,1,none⟩) v (.inl (by simp))) (by simp[h1.symm])).mod ((Mod.refl [br] _).setCell (p:=⟨br,1,none⟩) v2 (.inl (by simp))) (by simp[h4])
 have a4:=((h.header hz.nv.zs hr.nv.zs hy).mod ((Mod.refl [bz] w2).setCell (p:=⟨bz,1,none⟩) v (.inl (by simp))) (by simp[h2.symm])).mod ((Mod.refl [br] _).setCell (p:=⟨br,1,none⟩) v2 (.inl (by simp))) (by simp[h5])
 exact⟨a1.cell (hdr_get1 _ _ _),a2.cell (hdr_get1 _ _ _),a3.cell (hdr_get0 _ _ _),a4.cell (hdr_get0 _ _ _),a1.cell (hdr_get0 _ _ _),a1.free 0,a2.cell (hdr_get0 _ _ _),a2.free 0⟩
theorem tdiv_neg_iff {a b:Int} (hb:0<b) (h:a.tdiv b≠0):decide (a<0)=decide (a.tdiv b<0):=by
 rcases Int.lt_or_le a 0 with k|k
 ·have:a.tdiv b≤0:=by
   obtain⟨m,rfl⟩:∃m:Int,a=-m:=⟨-a,by omega⟩
   rw[Int.neg_tdiv]
   have:=Int.tdiv_nonneg (a:=m) (b:=b) (by omega) (by omega)
   omega
  rw[decide_eq_true k,decide_eq_true (by omega)]
 ·have:=Int.tdiv_nonneg (a:=a) (b:=b) k (by omega)
  rw[decide_eq_false (by omega),decide_eq_false (by omega)]
theorem tmod_neg_iff {a b:Int} (h:a.tmod b≠0):decide (a<0)=decide (a.tmod b<0):=by
 rcases Int.lt_or_le a 0 with k|k
 ·have:a.tmod b≤0:=by
   obtain⟨m,rfl⟩:∃m:Int,a=-m:=⟨-a,by omega⟩
   rw[Int.neg_tmod]
   have:=Int.tmod_nonneg (a:=m) b (by omega)
   omega
  rw[decide_eq_true k,decide_eq_true (by omega)]
 ·have:=Int.tmod_nonneg (a:=a) b k
  rw[decide_eq_false (by omega),decide_eq_false (by omega)]
theorem len_gtr {l n:Nat} (h:l=0↔n=0) (g:Bool) (hg:g=decide (n≠0)):decide ((0:Int)<(l:Int))=g∧decide (0<l)=g:=by
 subst hg
 by_cases h0:n=0
 ·have:=h.2 h0
  subst this;simp[h0]
 ·have:l≠0:=fun e=>h0 (h.1 e)
  have:0<l:=by omega
  simp[h0];omega
theorem int_quoRem (bz bx bY br:Nat) (sz sx sy sr:Option Int) (nz nx ny nr:Int) (vz vx vy vr:Value) (w:World) (he:Env w) (hz:IA w bz sz nz vz) (hx:IA w bx sx nx vx) (hy:IA w bY sy ny vy) (hr:IA w br sr nr vr)
 (h1:bz≠bx) (h2:bz≠bY) (h3:bz≠br) (h4:bx≠br) (h5:bY≠br) (hd:∀k,k∈sb vz→k∉sb vr) (hdx:∀k,k∈sb vx→k∉sb vr) (hXb:nx.natAbs<Big) (hYb:ny.natAbs<B^39) (hy0:0<ny):
 Calls Tryz.prog 195 #[.pointer (some ⟨bz,0,none⟩),.pointer (some ⟨bx,0,none⟩),.pointer (some ⟨bY,0,none⟩),.pointer (some ⟨br,0,none⟩)] w (QRIRet w bz br vz vr sz sr (nx.tdiv ny) (nx.tmod ny)):=by
 have z1:=hz.abs
 have x1:=hx.abs
 have y1:=hy.abs
 have r1:=hr.abs
 have hdiv:Calls Tryz.prog 214 #[vz,.pointer none,vr,vx,vy] w.drew (QRet' w.drew vz vr [] (nx.tdiv ny).natAbs (nx.tmod ny).natAbs):=by
  rw[Int.natAbs_tdiv,Int.natAbs_tmod]
  exact div_calls vz vr vx vy nx.natAbs ny.natAbs (w.drewN 1) (he.drewN 1) (hz.nv.zs.drewN 1) (hr.nv.zs.drewN 1) (hx.nv.drewN 1) (hy.nv.drewN 1) hXb hYb (by omega) hd hdx
 have HD:=Lh hdiv
 have y0:decide (ny<0)=false:=decide_eq_false (by omega)
 have HY:=Lh hy0
 have k1:¬bx=bz:=fun h=>h1 h.symm
 have k2:¬bY=bz:=fun h=>h2 h.symm
 have k3:¬br=bz:=fun h=>h3 h.symm
 have k4:¬br=bx:=fun h=>h4 h.symm
 have k5:¬br=bY:=fun h=>h5 h.symm
 clear hdiv hXb hYb hy0 hd hdx
 go_enter Tryz.func195,Tryz.ntmps195
 go_upto_region 2 with fail
 go_cut [] from 10 to 35 (fun wx=>∃(a1:Option Addr) (l1 c1:Nat) (a2:Option Addr) (l2 c2:Nat) (w2:World),wx=(w2.setCell ⟨bz,1,none⟩ (.slice a1 l1 c1)).setCell ⟨br,1,none⟩ (.slice a2 l2 c2)∧QRes (w.drewN 1) vz vr [] (nx.tdiv ny).natAbs (nx.tmod ny).natAbs (.slice a1 l1 c1) (.slice a2 l2 c2) w2)
 case first=>
  go_wp2_with fail
  go_region_law (first|(go_simp;go_at_call 214;refine HD.out.mono ?_;rintro e w2 ⟨v,v2,rfl,hres⟩;obtain⟨a1,l1,c1,rfl,hl1⟩:=hres.q.len;obtain⟨a2,l2,c2,rfl,hl2⟩:=hres.r.len;have HQ:=Lh hres;have hhz:=hres.header (k:=1) hz.nv.zs hr.nv.zs hz;have hhr:=hres.header (k:=1) hz.nv.zs hr.nv.zs hr;have hhx:=hres.header (k:=1) hz.nv.zs hr.nv.zs hx;have hhy:=hres.header (k:=1) hz.nv.zs hr.nv.zs hy;have x2:=hhx.cell (hdr_get1 _ _ _);have y2:=hhy.cell (hdr_get1 _ _ _);have z2:=hhz.cell (hdr_get1 _ _ _);have f1:=hhz.free 1;have r2:=hhr.cell (hdr_get1 _ _ _);have f2:=hhr.free 1;clear hres hhz hhr hhx hhy hl1 hl2))
  all_goals
   go_wp2_with fail
   go_meet
   case rel=>exact⟨_,_,_,_,_,_,_,rfl,HQ.out⟩
 case rest=>
  obtain⟨a1,l1,c1,a2,l2,c2,w2,rfl,hres⟩:=hcut
  have HL1:=Lh (show l1=0↔(nx.tdiv ny).natAbs=0 by have:=hres.q.len;obtain⟨_,_,_,e,h,_⟩:=this;cases e;exact h)
  have HL2:=Lh (show l2=0↔(nx.tmod ny).natAbs=0 by have:=hres.r.len;obtain⟨_,_,_,e,h,_⟩:=this;cases e;exact h)
  obtain⟨e1,e2,e3,e4,e5,e6,e7,e8⟩:=quo_cells hz hx hy hr h1 h2 h3 h4 h5 hres
  rw[y0] at e4
  have FIN:=Lh (quo_fin hz hr h3 hres)
  clear hres z1 x1 y1 r1 y0 HD
  generalize (w2.setCell ⟨bz,1,none⟩ (.slice a1 l1 c1)).setCell ⟨br,1,none⟩ (.slice a2 l2 c2)=w3 at*
  by_cases hq:nx.tdiv ny=0
  ·by_cases hr0:nx.tmod ny=0
   ·have NQ:=Lh (show false=decide (nx.tdiv ny<0) by rw[hq];rfl)
    have NR:=Lh (show false=decide (nx.tmod ny<0) by rw[hr0];rfl)
    obtain⟨g1,g2⟩:=len_gtr HL1.out false (decide_eq_false (by omega)).symm
    obtain⟨g3,g4⟩:=len_gtr HL2.out false (decide_eq_false (by omega)).symm
    clear hq hr0
    generalize decide (nx<0)=p at*
    cases p
    all_goals
     go_wp2_with fail
     go_region
     all_goals
      go_wp2_with fail
      go_ret2
      exact⟨rfl,_,_,QRInt.drewN (by have h:=FIN.out;rw[←NQ.out,←NR.out] at h;exact h) 1⟩
   ·have NQ:=Lh (show false=decide (nx.tdiv ny<0) by rw[hq];rfl)
    have NR:=Lh (show decide (nx<0)=decide (nx.tmod ny<0) by exact tmod_neg_iff hr0)
    obtain⟨g1,g2⟩:=len_gtr HL1.out false (decide_eq_false (by omega)).symm
    obtain⟨g3,g4⟩:=len_gtr HL2.out true (decide_eq_true (by omega)).symm
    clear hq hr0
    generalize decide (nx<0)=p at*
    cases p
    all_goals
     go_wp2_with fail
     go_region
     all_goals
      go_wp2_with fail
      go_ret2
      exact⟨rfl,_,_,QRInt.drewN (by have h:=FIN.out;rw[←NQ.out,←NR.out] at h;exact h) 1⟩
  ·by_cases hr0:nx.tmod ny=0
   ·have NQ:=Lh (show decide (nx<0)=decide (nx.tdiv ny<0) by exact tdiv_neg_iff HY.out hq)
    have NR:=Lh (show false=decide (nx.tmod ny<0) by rw[hr0];rfl)
    obtain⟨g1,g2⟩:=len_gtr HL1.out true (decide_eq_true (by omega)).symm
    obtain⟨g3,g4⟩:=len_gtr HL2.out false (decide_eq_false (by omega)).symm
    clear hq hr0
    generalize decide (nx<0)=p at*
    cases p
    all_goals
     go_wp2_with fail
     go_region
     all_goals
      go_wp2_with fail
      go_ret2
      exact⟨rfl,_,_,QRInt.drewN (by have h:=FIN.out;rw[←NQ.out,←NR.out] at h;exact h) 1⟩
   ·have NQ:=Lh (show decide (nx<0)=decide (nx.tdiv ny<0) by exact tdiv_neg_iff HY.out hq)
    have NR:=Lh (show decide (nx<0)=decide (nx.tmod ny<0) by exact tmod_neg_iff hr0)
    obtain⟨g1,g2⟩:=len_gtr HL1.out true (decide_eq_true (by omega)).symm
    obtain⟨g3,g4⟩:=len_gtr HL2.out true (decide_eq_true (by omega)).symm
    clear hq hr0
    generalize decide (nx<0)=p at*
    cases p
    all_goals
     go_wp2_with fail
     go_region
     all_goals
      go_wp2_with fail
      go_ret2
      exact⟨rfl,_,_,QRInt.drewN (by have h:=FIN.out;rw[←NQ.out,←NR.out] at h;exact h) 1⟩
end Go.Proofs.YtcpjclakdpjjfaaGreatDoor
