/- Whole numbers (bigall/int. -/
import Derived.Test.YtcpjclakdpjjfaaGreatDoorC11
import Derived.RegionTactic
import Derived.BigRegion
set_option maxHeartbeats 2000000
set_option maxRecDepth 10000
namespace Go.Proofs.YtcpjclakdpjjfaaGreatDoor
open Go.RowKit Wd
theorem mul_sign {a b:Int} (h:a*b≠0):(decide (a<0) !=decide (b<0))=decide (a*b<0):=by
 have ha:a≠0:=by rintro rfl;simp at h
 have hb:b≠0:=by rintro rfl;simp at h
 rcases Int.lt_or_gt_of_ne ha with ha|ha<;>rcases Int.lt_or_gt_of_ne hb with hb|hb
 ·have:=Int.mul_pos_of_neg_of_neg ha hb
  rw[show decide (a<0)=true by simp;omega,show decide (b<0)=true by simp;omega,show decide (a*b<0)=false by simp;omega];rfl
 ·have:=Int.mul_neg_of_neg_of_pos ha hb
  rw[show decide (a<0)=true by simp;omega,show decide (b<0)=false by simp;omega,show decide (a*b<0)=true by simp;omega];rfl
 ·have:=Int.mul_neg_of_pos_of_neg ha hb
  rw[show decide (a<0)=false by simp;omega,show decide (b<0)=true by simp;omega,show decide (a*b<0)=true by simp;omega];rfl
 ·have:=Int.mul_pos ha hb
  rw[show decide (a<0)=false by simp;omega,show decide (b<0)=false by simp;omega,show decide (a*b<0)=false by simp;omega];rfl
def MulRet (w:World) (b:Nat) (v:Value) (s':Option Int) (n':Int) (e:Ending) (w':World):Prop:=e=.returned (.tuple #[])∧∃v',IntRes w b v s' n' v' w'
theorem int_mul0 (bz bx bY:Nat) (sz sx sy:Option Int) (nz nx ny:Int) (vz vx vy:Value) (w:World)
 (hz:IA w bz sz nz vz) (hx:IA w bx sx nx vx) (hy:IA w bY sy ny vy) (he:Env w) (hne:bx≠bY) (hXb:nx.natAbs<Big) (hYb:ny.natAbs<B^39) (h0:nx*ny=0):
 Calls Tryz.prog 110 #[.pointer (some ⟨bz,0,none⟩),.pointer none,.pointer (some ⟨bx,0,none⟩),.pointer (some ⟨bY,0,none⟩)] w (MulRet w bz vz sz (nx*ny)):=by
 have hp:=iptr_eql hx hy
 rw[show decide (bx=bY)=false by simp[hne]] at hp
 have NB:=Lh (show false=decide (nx*ny<0) by rw[h0];rfl)
 have HL:=Lh (fun(l:Nat) (h:l=0↔(nx*ny).natAbs=0)=>(show decide ((0:Int)<(l:Int))=false∧decide (0<l)=false by simp;omega))
 have hS:Calls Tryz.prog 154 #[vz,.pointer none,vx,vy] w.drew (NRet w.drew vz (nx*ny).natAbs):=by
  rw[Int.natAbs_mul];exact mul_calls vz _ vx vy nx.natAbs ny.natAbs (w.drewN 1) (he.drewN 1) (hz.nv.zs.drewN 1) (hx.nv.drewN 1) (hy.nv.drewN 1) hXb hYb
 have HS:=Lh hS
 have z1:=hz.abs
 have x1:=hx.abs
 have y1:=hy.abs
 clear hS h0 hXb hYb
 go_enter Tryz.func110,Tryz.ntmps110
 go_wp2_with fail
 go_region_law (first|(go_simp;go_at_call 154;refine HS.out.mono ?_;rintro e w2 ⟨v',rfl,hres⟩;obtain⟨a1,l1,c1,rfl,hl0,hl1⟩:=hres.nv.len;obtain⟨z2,f1,z3,f0⟩:=hz.z (k:=1) hres;have GG:=Lh (Aj (hz.z2 (k:=1) hres) (Aj (hx.x2 hz (k:=1) hres) (hy.x2 hz (k:=1) hres)));have FIN:=Lh (int_fin hz (k:=1) (n':=nx*ny) hres);obtain⟨hl2,hl3⟩:=HL.out l1 hl0;clear hres hl0))
 all_goals
  obtain⟨⟨g1,g2,g3⟩,gx,gy⟩:=GG.out
  clear GG z2 f1 z3 f0 z1 x1 y1
  generalize w2.setCell ⟨bz,1,none⟩ (.slice a1 l1 c1)=w3 at*
  generalize decide (nx<0)=p at*
  generalize decide (ny<0)=q at*
  skip
  all_goals
   go_wp2_with fail
   go_region
   all_goals
    go_end0
    exact⟨rfl,_,IntRes.drewN (NB.out▸FIN.out) 1⟩
theorem int_mul1 (bz bx bY:Nat) (sz sx sy:Option Int) (nz nx ny:Int) (vz vx vy:Value) (w:World)
 (hz:IA w bz sz nz vz) (hx:IA w bx sx nx vx) (hy:IA w bY sy ny vy) (he:Env w) (hne:bx≠bY) (hXb:nx.natAbs<Big) (hYb:ny.natAbs<B^39) (h0:nx*ny≠0):
 Calls Tryz.prog 110 #[.pointer (some ⟨bz,0,none⟩),.pointer none,.pointer (some ⟨bx,0,none⟩),.pointer (some ⟨bY,0,none⟩)] w (MulRet w bz vz sz (nx*ny)):=by
 have hp:=iptr_eql hx hy
 rw[show decide (bx=bY)=false by simp[hne]] at hp
 have NB:=Lh (mul_sign h0)
 have HL:=Lh (fun(l:Nat) (h:l=0↔(nx*ny).natAbs=0)=>(show decide ((0:Int)<(l:Int))=true∧decide (0<l)=true by simp;omega))
 have hS:Calls Tryz.prog 154 #[vz,.pointer none,vx,vy] w.drew (NRet w.drew vz (nx*ny).natAbs):=by
  rw[Int.natAbs_mul];exact mul_calls vz _ vx vy nx.natAbs ny.natAbs (w.drewN 1) (he.drewN 1) (hz.nv.zs.drewN 1) (hx.nv.drewN 1) (hy.nv.drewN 1) hXb hYb
 have HS:=Lh hS
 have z1:=hz.abs
 have x1:=hx.abs
 have y1:=hy.abs
 clear hS h0 hXb hYb
 go_enter Tryz.func110,Tryz.ntmps110
 go_wp2_with fail
 go_region_law (first|(go_simp;go_at_call 154;refine HS.out.mono ?_;rintro e w2 ⟨v',rfl,hres⟩;obtain⟨a1,l1,c1,rfl,hl0,hl1⟩:=hres.nv.len;obtain⟨z2,f1,z3,f0⟩:=hz.z (k:=1) hres;have GG:=Lh (Aj (hz.z2 (k:=1) hres) (Aj (hx.x2 hz (k:=1) hres) (hy.x2 hz (k:=1) hres)));have FIN:=Lh (int_fin hz (k:=1) (n':=nx*ny) hres);obtain⟨hl2,hl3⟩:=HL.out l1 hl0;clear hres hl0))
 all_goals
  obtain⟨⟨g1,g2,g3⟩,gx,gy⟩:=GG.out
  clear GG z2 f1 z3 f0 z1 x1 y1
  generalize w2.setCell ⟨bz,1,none⟩ (.slice a1 l1 c1)=w3 at*
  generalize decide (nx<0)=p at*
  generalize decide (ny<0)=q at*
  cases p<;>cases q
  all_goals
   go_wp2_with fail
   go_region
   all_goals
    go_end0
    exact⟨rfl,_,IntRes.drewN (NB.out▸FIN.out) 1⟩
theorem int_mul_raw (bz bx bY:Nat) (sz sx sy:Option Int) (nz nx ny:Int) (vz vx vy:Value) (w:World)
 (hz:IA w bz sz nz vz) (hx:IA w bx sx nx vx) (hy:IA w bY sy ny vy) (he:Env w) (hne:bx≠bY) (hXb:nx.natAbs<Big) (hYb:ny.natAbs<B^39):
 Calls Tryz.prog 110 #[.pointer (some ⟨bz,0,none⟩),.pointer none,.pointer (some ⟨bx,0,none⟩),.pointer (some ⟨bY,0,none⟩)] w (MulRet w bz vz sz (nx*ny)):=by
 by_cases h0:nx*ny=0
 ·exact int_mul0 bz bx bY sz sx sy nz nx ny vz vx vy w hz hx hy he hne hXb hYb h0
 ·exact int_mul1 bz bx bY sz sx sy nz nx ny vz vx vy w hz hx hy he hne hXb hYb h0
theorem int_mul (bz bx bY:Nat) (sz sx sy:Option Int) (nz nx ny:Int) (vz vx vy:Value) (w:World)
 (hz:IA w bz sz nz vz) (hx:IA w bx sx nx vx) (hy:IA w bY sy ny vy) (he:Env w) (hne:bx≠bY) (hXb:nx.natAbs<Big) (hYb:ny.natAbs<B^39):
 Calls Tryz.prog 72 #[.pointer (some ⟨bz,0,none⟩),.pointer (some ⟨bx,0,none⟩),.pointer (some ⟨bY,0,none⟩)] w (IntRet w bz vz sz (nx*ny)):=by
 have HC:=Lh (int_mul_raw bz bx bY sz sx sy nz nx ny vz vx vy w hz hx hy he hne hXb hYb)
 go_enter Tryz.func72,Tryz.ntmps72
 go_wp2_with fail
 refine HC.out.mono ?_
 rintro e w1 ⟨rfl,v',hres⟩
 have H:=Lh hres
 clear hres
 go_wp2_with fail
 go_ret
 exact⟨rfl,_,H.out⟩
end Go.Proofs.YtcpjclakdpjjfaaGreatDoor
