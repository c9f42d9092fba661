/- Whole numbers (bigall/int. -/
import Derived.Test.YtcpjclakdpjjfaaGreatDoorC11
set_option maxHeartbeats 800000
set_option maxRecDepth 10000
namespace Go.Proofs.YtcpjclakdpjjfaaGreatDoor
open Go.RowKit Wd
theorem int_add_sum (bz bx bY:Nat) (sz sx sy:Option Int) (nz nx ny:Int) (vz vx vy:Value) (w:World)
 (hz:IA w bz sz nz vz) (hx:IA w bx sx nx vx) (hy:IA w bY sy ny vy) (hXb:nx.natAbs<Big) (hYb:ny.natAbs<Big) (hs:(decide (nx<0)==decide (ny<0))=true) (h0:nx+ny≠0):
 Calls Tryz.prog 118 #[.pointer (some ⟨bz,0,none⟩),.pointer (some ⟨bx,0,none⟩),.pointer (some ⟨bY,0,none⟩)] w (IntRet w bz vz sz (nx+ny)):=by
 have hr:(nx+ny).natAbs=nx.natAbs+ny.natAbs:=by
  rw[Bool.eq_iff_iff] at hs
  simp at hs;omega
 have hn:decide (nx<0)=decide (nx+ny<0):=by
  rw[Bool.eq_iff_iff] at hs ⊢
  simp at hs ⊢;omega
 have NB:=Lh hn
 have HL:=Lh (fun(l:Nat) (h:l=0↔(nx+ny).natAbs=0)=>(by omega:0<l))
 have hS:∀k,Calls Tryz.prog 158 #[vz,vx,vy] (w.drewN k) (NRet (w.drewN k) vz (nx+ny).natAbs):=fun k=>by rw[hr];exact add_calls vz vx vy nx.natAbs ny.natAbs (w.drewN k) (hz.nv.zs.drewN k) (hx.nv.drewN k) (hy.nv.drewN k) hXb hYb
 have HS:=Lh hS
 have z1:=hz.abs
 have x1:=hx.abs
 have x0:=hx.neg
 have y1:=hy.abs
 have y0:=hy.neg
 generalize decide (nx<0)=p at*
 generalize decide (ny<0)=q at*
 clear hr hn hS h0 hXb hYb
 go_enter Tryz.func118,Tryz.ntmps118
 go_wp2_with fail
 go_quiet (fail)
 go_wp2_with fail
 go_region_law (first|(go_simp;go_at_call 158;refine(HS.out _).mono ?_;rintro e w2 ⟨v',rfl,hres⟩;obtain⟨a1,l1,c1,rfl,hl0,hl1⟩:=hres.nv.len;obtain⟨z2,f1,z3,f0⟩:=hz.z hres;have FIN:=Lh (int_fin hz (n':=nx+ny) hres);have hl2:0<l1:=HL.out l1 hl0;clear hres hl0))
 all_goals
  go_wp2_with fail
  go_ret
  exact⟨rfl,_,NB.out▸FIN.out⟩
theorem int_add_sum0 (bz bx bY:Nat) (sz sx sy:Option Int) (nz nx ny:Int) (vz vx vy:Value) (w:World)
 (hz:IA w bz sz nz vz) (hx:IA w bx sx nx vx) (hy:IA w bY sy ny vy) (hXb:nx.natAbs<Big) (hYb:ny.natAbs<Big) (hs:(decide (nx<0)==decide (ny<0))=true) (h0:nx+ny=0):
 Calls Tryz.prog 118 #[.pointer (some ⟨bz,0,none⟩),.pointer (some ⟨bx,0,none⟩),.pointer (some ⟨bY,0,none⟩)] w (IntRet w bz vz sz (nx+ny)):=by
 have hr:(nx+ny).natAbs=nx.natAbs+ny.natAbs:=by
  rw[Bool.eq_iff_iff] at hs
  simp at hs;omega
 have hn:false=decide (nx+ny<0):=by rw[h0];rfl
 have NB:=Lh hn
 have HL:=Lh (fun(l:Nat) (h:l=0↔(nx+ny).natAbs=0)=>(by omega:l=0))
 have hS:∀k,Calls Tryz.prog 158 #[vz,vx,vy] (w.drewN k) (NRet (w.drewN k) vz (nx+ny).natAbs):=fun k=>by rw[hr];exact add_calls vz vx vy nx.natAbs ny.natAbs (w.drewN k) (hz.nv.zs.drewN k) (hx.nv.drewN k) (hy.nv.drewN k) hXb hYb
 have HS:=Lh hS
 have z1:=hz.abs
 have x1:=hx.abs
 have x0:=hx.neg
 have y1:=hy.abs
 have y0:=hy.neg
 generalize decide (nx<0)=p at*
 generalize decide (ny<0)=q at*
 clear hr hn hS h0 hXb hYb
 go_enter Tryz.func118,Tryz.ntmps118
 go_wp2_with fail
 go_quiet (fail)
 go_wp2_with fail
 go_region_law (first|(go_simp;go_at_call 158;refine(HS.out _).mono ?_;rintro e w2 ⟨v',rfl,hres⟩;obtain⟨a1,l1,c1,rfl,hl0,hl1⟩:=hres.nv.len;obtain⟨z2,f1,z3,f0⟩:=hz.z hres;have FIN:=Lh (int_fin hz (n':=nx+ny) hres);obtain rfl:=HL.out l1 hl0;clear hres hl0))
 all_goals
  go_wp2_with fail
  go_ret
  exact⟨rfl,_,NB.out▸FIN.out⟩
theorem int_add_ge (bz bx bY:Nat) (sz sx sy:Option Int) (nz nx ny:Int) (vz vx vy:Value) (w:World)
 (hz:IA w bz sz nz vz) (hx:IA w bx sx nx vx) (hy:IA w bY sy ny vy) (hXb:nx.natAbs<Big) (hYb:ny.natAbs<Big) (hs:(decide (nx<0)==decide (ny<0))=false) (hc:ny.natAbs≤nx.natAbs) (h0:nx+ny≠0):
 Calls Tryz.prog 118 #[.pointer (some ⟨bz,0,none⟩),.pointer (some ⟨bx,0,none⟩),.pointer (some ⟨bY,0,none⟩)] w (IntRet w bz vz sz (nx+ny)):=by
 have hr:(nx+ny).natAbs=nx.natAbs-ny.natAbs:=by
  rw[Bool.eq_iff_iff] at hs
  simp at hs;omega
 have hn:decide (nx<0)=decide (nx+ny<0):=by
  rw[Bool.eq_iff_iff] at hs ⊢
  simp at hs ⊢;omega
 have NB:=Lh hn
 have HL:=Lh (fun(l:Nat) (h:l=0↔(nx+ny).natAbs=0)=>(by omega:0<l))
 have hS:∀k,Calls Tryz.prog 159 #[vz,vx,vy] (w.drewN k) (NRet (w.drewN k) vz (nx+ny).natAbs):=fun k=>by rw[hr];exact sub_calls vz vx vy nx.natAbs ny.natAbs (w.drewN k) (hz.nv.zs.drewN k) (hx.nv.drewN k) (hy.nv.drewN k) hXb hc
 have HS:=Lh hS
 have hC:=fun k=>cmp_calls vx vy nx.natAbs ny.natAbs (w.drewN k) (hx.nv.drewN k) (hy.nv.drewN k) hXb hYb
 have hci:cmpI nx.natAbs ny.natAbs≥0:=by unfold cmpI;split<;>(try split)<;>omega
 generalize cmpI nx.natAbs ny.natAbs=ci at*
 have HC:=Lh hC
 clear hC
 have z1:=hz.abs
 have x1:=hx.abs
 have x0:=hx.neg
 have y1:=hy.abs
 have y0:=hy.neg
 generalize decide (nx<0)=p at*
 generalize decide (ny<0)=q at*
 clear hr hn hS h0 hXb hYb hc
 go_enter Tryz.func118,Tryz.ntmps118
 go_wp2_with fail
 go_quiet (fail)
 go_wp2_with fail
 go_quiet ((go_at_call 156;exact quiet_add (HC.out _)))
 go_wp2_with fail
 go_region_law (first|(go_simp;go_at_call 159;refine(HS.out _).mono ?_;rintro e w2 ⟨v',rfl,hres⟩;obtain⟨a1,l1,c1,rfl,hl0,hl1⟩:=hres.nv.len;obtain⟨z2,f1,z3,f0⟩:=hz.z hres;have FIN:=Lh (int_fin hz (n':=nx+ny) hres);have hl2:0<l1:=HL.out l1 hl0;clear hres hl0))
 all_goals
  go_wp2_with fail
  go_ret
  exact⟨rfl,_,NB.out▸FIN.out⟩
theorem int_add_ge0 (bz bx bY:Nat) (sz sx sy:Option Int) (nz nx ny:Int) (vz vx vy:Value) (w:World)
 (hz:IA w bz sz nz vz) (hx:IA w bx sx nx vx) (hy:IA w bY sy ny vy) (hXb:nx.natAbs<Big) (hYb:ny.natAbs<Big) (hs:(decide (nx<0)==decide (ny<0))=false) (hc:ny.natAbs≤nx.natAbs) (h0:nx+ny=0):
 Calls Tryz.prog 118 #[.pointer (some ⟨bz,0,none⟩),.pointer (some ⟨bx,0,none⟩),.pointer (some ⟨bY,0,none⟩)] w (IntRet w bz vz sz (nx+ny)):=by
 have hr:(nx+ny).natAbs=nx.natAbs-ny.natAbs:=by
  rw[Bool.eq_iff_iff] at hs
  simp at hs;omega
 have hn:false=decide (nx+ny<0):=by rw[h0];rfl
 have NB:=Lh hn
 have HL:=Lh (fun(l:Nat) (h:l=0↔(nx+ny).natAbs=0)=>(by omega:l=0))
 have hS:∀k,Calls Tryz.prog 159 #[vz,vx,vy] (w.drewN k) (NRet (w.drewN k) vz (nx+ny).natAbs):=fun k=>by rw[hr];exact sub_calls vz vx vy nx.natAbs ny.natAbs (w.drewN k) (hz.nv.zs.drewN k) (hx.nv.drewN k) (hy.nv.drewN k) hXb hc
 have HS:=Lh hS
 have hC:=fun k=>cmp_calls vx vy nx.natAbs ny.natAbs (w.drewN k) (hx.nv.drewN k) (hy.nv.drewN k) hXb hYb
 have hci:cmpI nx.natAbs ny.natAbs≥0:=by unfold cmpI;split<;>(try split)<;>omega
 generalize cmpI nx.natAbs ny.natAbs=ci at*
 have HC:=Lh hC
 clear hC
 have z1:=hz.abs
 have x1:=hx.abs
 have x0:=hx.neg
 have y1:=hy.abs
 have y0:=hy.neg
 generalize decide (nx<0)=p at*
 generalize decide (ny<0)=q at*
 clear hr hn hS h0 hXb hYb hc
 go_enter Tryz.func118,Tryz.ntmps118
 go_wp2_with fail
 go_quiet (fail)
 go_wp2_with fail
 go_quiet ((go_at_call 156;exact quiet_add (HC.out _)))
 go_wp2_with fail
 go_region_law (first|(go_simp;go_at_call 159;refine(HS.out _).mono ?_;rintro e w2 ⟨v',rfl,hres⟩;obtain⟨a1,l1,c1,rfl,hl0,hl1⟩:=hres.nv.len;obtain⟨z2,f1,z3,f0⟩:=hz.z hres;have FIN:=Lh (int_fin hz (n':=nx+ny) hres);obtain rfl:=HL.out l1 hl0;clear hres hl0))
 all_goals
  go_wp2_with fail
  go_ret
  exact⟨rfl,_,NB.out▸FIN.out⟩
theorem int_add_lt (bz bx bY:Nat) (sz sx sy:Option Int) (nz nx ny:Int) (vz vx vy:Value) (w:World)
 (hz:IA w bz sz nz vz) (hx:IA w bx sx nx vx) (hy:IA w bY sy ny vy) (hXb:nx.natAbs<Big) (hYb:ny.natAbs<Big) (hs:(decide (nx<0)==decide (ny<0))=false) (hc:nx.natAbs<ny.natAbs) (h0:nx+ny≠0):
 Calls Tryz.prog 118 #[.pointer (some ⟨bz,0,none⟩),.pointer (some ⟨bx,0,none⟩),.pointer (some ⟨bY,0,none⟩)] w (IntRet w bz vz sz (nx+ny)):=by
 have hr:(nx+ny).natAbs=ny.natAbs-nx.natAbs:=by
  rw[Bool.eq_iff_iff] at hs
  simp at hs;omega
 have hn:(!decide (nx<0))=decide (nx+ny<0):=by
  rw[Bool.eq_iff_iff] at hs ⊢
  simp at hs ⊢;omega
 have NB:=Lh hn
 have HL:=Lh (fun(l:Nat) (h:l=0↔(nx+ny).natAbs=0)=>(by omega:0<l))
 have hS:∀k,Calls Tryz.prog 159 #[vz,vy,vx] (w.drewN k) (NRet (w.drewN k) vz (nx+ny).natAbs):=fun k=>by rw[hr];exact sub_calls vz vy vx ny.natAbs nx.natAbs (w.drewN k) (hz.nv.zs.drewN k) (hy.nv.drewN k) (hx.nv.drewN k) hYb (Nat.le_of_lt hc)
 have HS:=Lh hS
 have hC:=fun k=>cmp_calls vx vy nx.natAbs ny.natAbs (w.drewN k) (hx.nv.drewN k) (hy.nv.drewN k) hXb hYb
 have hci:cmpI nx.natAbs ny.natAbs<0:=by unfold cmpI;split<;>(try split)<;>omega
 generalize cmpI nx.natAbs ny.natAbs=ci at*
 have HC:=Lh hC
 clear hC
 have z1:=hz.abs
 have x1:=hx.abs
 have x0:=hx.neg
 have y1:=hy.abs
 have y0:=hy.neg
 generalize decide (nx<0)=p at*
 generalize decide (ny<0)=q at*
 clear hr hn hS h0 hXb hYb hc
 go_enter Tryz.func118,Tryz.ntmps118
 go_wp2_with fail
 go_quiet (fail)
 go_wp2_with fail
 go_quiet ((go_at_call 156;exact quiet_add (HC.out _)))
 go_wp2_with fail
 go_region_law (first|(go_simp;go_at_call 159;refine(HS.out _).mono ?_;rintro e w2 ⟨v',rfl,hres⟩;obtain⟨a1,l1,c1,rfl,hl0,hl1⟩:=hres.nv.len;obtain⟨z2,f1,z3,f0⟩:=hz.z hres;have FIN:=Lh (int_fin hz (n':=nx+ny) hres);have hl2:0<l1:=HL.out l1 hl0;clear hres hl0))
 all_goals
  go_wp2_with fail
  go_ret
  exact⟨rfl,_,NB.out▸FIN.out⟩
theorem int_add (bz bx bY:Nat) (sz sx sy:Option Int) (nz nx ny:Int) (vz vx vy:Value) (w:World)
 (hz:IA w bz sz nz vz) (hx:IA w bx sx nx vx) (hy:IA w bY sy ny vy) (hXb:nx.natAbs<Big) (hYb:ny.natAbs<Big):
 Calls Tryz.prog 118 #[.pointer (some ⟨bz,0,none⟩),.pointer (some ⟨bx,0,none⟩),.pointer (some ⟨bY,0,none⟩)] w (IntRet w bz vz sz (nx+ny)):=by
 by_cases hs:(decide (nx<0)==decide (ny<0))=true
 ·by_cases h0:nx+ny=0
  ·exact int_add_sum0 bz bx bY sz sx sy nz nx ny vz vx vy w hz hx hy hXb hYb hs h0
  ·exact int_add_sum bz bx bY sz sx sy nz nx ny vz vx vy w hz hx hy hXb hYb hs h0
 ·have hs':(decide (nx<0)==decide (ny<0))=false:=by simpa using hs
  rcases Nat.lt_or_ge nx.natAbs ny.natAbs with hc|hc
  ·exact int_add_lt bz bx bY sz sx sy nz nx ny vz vx vy w hz hx hy hXb hYb hs' hc (by
    rw[Bool.eq_iff_iff] at hs
    simp at hs;omega)
  ·by_cases h0:nx+ny=0
   ·exact int_add_ge0 bz bx bY sz sx sy nz nx ny vz vx vy w hz hx hy hXb hYb hs' hc h0
   ·exact int_add_ge bz bx bY sz sx sy nz nx ny vz vx vy w hz hx hy hXb hYb hs' hc h0
end Go.Proofs.YtcpjclakdpjjfaaGreatDoor
