/- Amounts of 64 bits: sums and differences (resource/amount. -/
import Derived.Test.YtcpjclakdpjjfaaGreatDoorC22
import Derived.Test.YtcpjclakdpjjfaaGreatDoorC09
import Derived.Deep.RegionHeld3
set_option maxHeartbeats 3200000
set_option maxRecDepth 10000
namespace Go.Proofs.YtcpjclakdpjjfaaGreatDoor
open Go.RowKit Wd Dg
def qc (v s:Int) (d st f:Value):Array Value:=#[.int .i64 v,.int .i32 s,d,st,f]
def AddRet (w:World) (b:Nat) (v s y t:Int) (d st f:Value) (e:Ending) (w':World):Prop:=
 Mod [b] w w'∧((e=.returned (.bool true)∧∃v' s',Hd w' b 70 (qc v' s' d st f)∧i64 v'∧(s'=s∨s'=t)∧v'*sc s'=v*sc s+y*sc t)∨(e=.returned (.bool false)∧Hd w' b 70 (qc v s d st f)))
theorem AddRet.yes {w w':World} {b:Nat} {v s y t v' s':Int} {d st f:Value} (m:Mod [b] w w') (h:Hd w' b 70 (qc v' s' d st f)) (h1:i64 v') (h2:s'=s∨s'=t) (h3:v'*sc s'=v*sc s+y*sc t):AddRet w b v s y t d st f (.returned (.bool true)) w':=
 ⟨m,.inl ⟨rfl,v',s',h,h1,h2,h3⟩⟩
theorem AddRet.no {w w':World} {b:Nat} {v s y t:Int} {d st f:Value} (m:Mod [b] w w') (h:Hd w' b 70 (qc v s d st f)):AddRet w b v s y t d st f (.returned (.bool false)) w':=
 ⟨m,.inr ⟨rfl,h⟩⟩
theorem amtAdd_zero (b:Nat) (v s t:Int) (d st f:Value) (w:World) (h:Hd w b 70 (qc v s d st f)) (hv:i64 v):Calls Tryz.prog 96 #[.pointer (some ⟨b,0,none⟩),amt 0 t] w (AddRet w b v s 0 t d st f):=by
 have ma:Mod [b] w (w.alloc (.cells #[.int .i64 0,.int .i32 t] 64)):=(Mod.refl [b] w).alloc _
 have h1:=Hd.mod h ((Mod.refl [] w).alloc (.cells #[.int .i64 0,.int .i32 t] 64)) (by simp)
 have H:=Lh (AddRet.yes (v:=v) (s:=s) (y:=0) (t:=t) (v':=v) (s':=s) ma h1 hv (.inl rfl) (by simp))
 clear ma h h1 hv
 unfold amt
 go_enter Tryz.func96,Tryz.ntmps96
 go_wp2_with fail
 go_ret
 exact H.out
theorem amtAdd_from0 (b:Nat) (s y t:Int) (d st f:Value) (w:World) (h:Hd w b 70 (qc 0 s d st f)) (hy:i64 y) (hy0:y≠0):Calls Tryz.prog 96 #[.pointer (some ⟨b,0,none⟩),amt y t] w (AddRet w b 0 s y t d st f):=by
 have h1:=Hd.mod h ((Mod.refl [] w).alloc (.cells #[.int .i64 y,.int .i32 t] 64)) (by simp)
 have c0:=h1.cell (i:=0) (v:=.int .i64 0) rfl
 have c1:=h1.cell (i:=1) (v:=.int .i32 s) rfl
 have fr:=h1.free
 have ma:Mod [b] w (((w.alloc (.cells #[.int .i64 y,.int .i32 t] 64)).setCell ⟨b,0,none⟩ (.int .i64 y)).setCell ⟨b,1,none⟩ (.int .i32 t)):=(((Mod.refl [b] w).alloc _).setCell _ (.inl (by simp))).setCell _ (.inl (by simp))
 have h2:=(h1.set 0 (.int .i64 y)).set 1 (.int .i32 t)
 have H:=Lh (AddRet.yes (s:=s) (y:=y) (t:=t) (v:=0) (v':=y) (s':=t) (d:=d) (st:=st) (f:=f) ma h2 hy (.inr rfl) (by simp))
 have ty:(y==0)=false:=by simpa using hy0
 have f1:((w.alloc (.cells #[.int .i64 y,.int .i32 t] 64)).setCell ⟨b,0,none⟩ (.int .i64 y)).frozen? ⟨b,1,none⟩=false:=(h1.set 0 (.int .i64 y)).free 1
 have e1:((w.alloc (.cells #[.int .i64 y,.int .i32 t] 64)).setCell ⟨b,0,none⟩ (.int .i64 y)).cell? ⟨b,1,none⟩=some (.int .i32 s):=(h1.set 0 (.int .i64 y)).cell rfl
 have hlt:=h.lt
 have q1:((w.alloc (.cells #[.int .i64 y,.int .i32 t] 64)).setCell ⟨b,0,none⟩ (.int .i64 y)).cell? ⟨w.heap.size,1,none⟩=some (.int .i32 t):=by
  have hb:=Hd.new w 64 #[.int .i64 y,.int .i32 t]
  exact(hb.mod ((Mod.refl [b] _).setCell (p:=⟨b,0,none⟩) (.int .i64 y) (.inl (by simp))) (by simp;omega)).cell rfl
 clear ma h h1 h2 hy hy0 hlt
 unfold amt
 go_enter Tryz.func96,Tryz.ntmps96
 go_wp2_with fail
 go_ret
 exact H.out
theorem AddRet.sum {w W:World} {b:Nat} {v s y t cc:Int} {d st f:Value} (m:Mod [b] w W) (h:Hd W b 70 (qc v s d st f)) (k:Nat) (hc:i64 cc) (h3:cc*sc s=v*sc s+y*sc t):AddRet w b v s y t d st f (.returned (.bool true)) ((W.drewN k).setCell ⟨b,0,none⟩ (.int .i64 cc)):=
 AddRet.yes ((m.drewN k).setCell _ (.inl (by simp))) (Hd.set (h.mod ((Mod.refl [] W).drewN k) (by simp)) 0 (.int .i64 cc)) hc (.inl rfl) h3
theorem AddRet.sum2 {w W:World} {b:Nat} {v s y t cc:Int} {d st f:Value} (m:Mod [b] w W) (h:Hd W b 70 (qc v s d st f)) (k:Nat) (hc:i64 cc) (h3:cc*sc t=v*sc s+y*sc t):AddRet w b v s y t d st f (.returned (.bool true)) (((W.drewN k).setCell ⟨b,1,none⟩ (.int .i32 t)).setCell ⟨b,0,none⟩ (.int .i64 cc)):=
 AddRet.yes (((m.drewN k).setCell _ (.inl (by simp))).setCell _ (.inl (by simp))) (Hd.set (Hd.set (h.mod ((Mod.refl [] W).drewN k) (by simp)) 1 (.int .i32 t)) 0 (.int .i64 cc)) hc (.inr rfl) h3
theorem AddRet.non {w W:World} {b:Nat} {v s y t:Int} {d st f:Value} (m:Mod [b] w W) (h:Hd W b 70 (qc v s d st f)) (k:Nat):AddRet w b v s y t d st f (.returned (.bool false)) (W.drewN k):=
 AddRet.no (m.drewN k) (h.mod ((Mod.refl [] W).drewN k) (by simp))
theorem amtAdd_same (b:Nat) (v s y:Int) (d st f:Value) (w:World) (h:Hd w b 70 (qc v s d st f)) (hv:i64 v) (hy:i64 y) (hy0:y≠0) (hv0:v≠0):Calls Tryz.prog 96 #[.pointer (some ⟨b,0,none⟩),amt y s] w (AddRet w b v s y s d st f):=by
 have h1:=Hd.mod h ((Mod.refl [] w).alloc (.cells #[.int .i64 y,.int .i32 s] 64)) (by simp)
 have c0:=h1.cell (i:=0) (v:=.int .i64 v) rfl
 have c1:=h1.cell (i:=1) (v:=.int .i32 s) rfl
 have fr:=h1.free
 have ma:Mod [b] w (w.alloc (.cells #[.int .i64 y,.int .i32 s] 64)):=(Mod.refl [b] w).alloc _
 have ty:(y==0)=false:=by simpa using hy0
 have tv:(v==0)=false:=by simpa using hv0
 have IA:=Lh (fun w=>int64Add_calls v y w hv hy)
 have H:=Lh (Aj h1 ma)
 clear ma h h1 hy hy0 hv hv0
 unfold amt
 go_enter Tryz.func96,Tryz.ntmps96
 go_wp2_with fail
 go_quiet (fail)
 go_wp2_with fail
 go_region_law (first|(go_simp;go_at_call 136;refine(IA.out _).mono ?_;rintro e w2 ⟨cc,ok,rfl,⟨m,rfl⟩,hok,hc64⟩;have HO:=Lh (Aj hok hc64);clear hok hc64))
 all_goals
  cases ok
  ·go_wp2_with fail
   go_ret
   exact AddRet.non H.out.2 H.out.1 _
  ·go_wp2_with fail
   go_ret
   exact AddRet.sum H.out.2 H.out.1 _ HO.out.2 (by rw[HO.out.1 (by first|rfl|trivial),Int.add_mul])
theorem amtAdd_gt (b:Nat) (v s y t:Int) (n:Nat) (hn:s=t+n) (hn0:0<n) (ht:-400≤t) (hn1:n≤10000) (d st f:Value) (w:World) (h:Hd w b 70 (qc v s d st f)) (hv:i64 v) (hy:i64 y) (hy0:y≠0) (hv0:v≠0):Calls Tryz.prog 96 #[.pointer (some ⟨b,0,none⟩),amt y t] w (AddRet w b v s y t d st f):=by
 have h1:=Hd.mod h ((Mod.refl [] w).alloc (.cells #[.int .i64 y,.int .i32 t] 64)) (by simp)
 have c0:=h1.cell (i:=0) (v:=.int .i64 v) rfl
 have c1:=h1.cell (i:=1) (v:=.int .i32 s) rfl
 have fr:=h1.free
 have ma:Mod [b] w (w.alloc (.cells #[.int .i64 y,.int .i32 t] 64)):=(Mod.refl [b] w).alloc _
 have ty:(y==0)=false:=by simpa using hy0
 have tv:(v==0)=false:=by simpa using hv0
 have ts:(s==t)=false:=by simp;omega
 have tg:decide (t<s)=true:=by simp;omega
 have T:=Lh<| show IntKind.i32.wrap (s-t)=(n:Int) by rw[IntKind.wrap_i32];omega
 have PS:=Lh (fun w=>positiveScale_calls v n w hv (by omega))
 have IA:=Lh (fun c w (hc:i64 c)=>int64Add_calls c y w hc hy)
 have hsc:sc s=sc t*10^n:=by rw[hn];exact sc_add ht
 have HP:=Lh (fun(cc c2:Int) (q1:cc=v*((10^n:Nat):Int)) (q2:c2=cc+y)=>(show c2*sc t=v*sc s+y*sc t by
  rw[hsc,q2,q1,Int.add_mul,Int.natCast_mul,Int.mul_assoc,Int.mul_comm (sc t:Int)]))
 have hbx:=Hd.new w 64 #[.int .i64 y,.int .i32 t]
 have H:=Lh (Aj h1 (Aj ma hbx))
 clear ma h h1 hbx hy hy0 hv hv0 hn hn0 ht hn1 hsc
 have tt:=T.out
 unfold amt
 go_enter Tryz.func96,Tryz.ntmps96
 go_wp2_with fail
 go_quiet (fail)
 go_wp2_with fail
 generalize nq=q1 at*
 go_quiet (fail)
 go_wp2_with fail
 obtain⟨h1,ma,hbx⟩:=H.out
 have h9:=Hd.mod (Hd.mod h1 ((Mod.refl [] _).drewN q1) (by simp)) ((Mod.refl [] _).drewN nq) (by simp)
 have b9:=Hd.mod (Hd.mod hbx ((Mod.refl [] _).drewN q1) (by simp)) ((Mod.refl [] _).drewN nq) (by simp)
 have m9:=(ma.drewN q1).drewN nq
 clear c0 c1 fr h1 ma hbx H
 generalize ((w.alloc (.cells #[.int .i64 y,.int .i32 t] 64)).drewN q1).drewN nq=w9 at*
 have c0:=h9.cell (i:=0) (v:=.int .i64 v) rfl
 have c1:=h9.cell (i:=1) (v:=.int .i32 s) rfl
 have d0:=b9.cell (i:=0) (v:=.int .i64 y) rfl
 have d1:=b9.cell (i:=1) (v:=.int .i32 t) rfl
 have fr:=h9.free
 have H:=Lh (Aj h9 m9)
 clear h9 b9 m9
 go_region_held3 (fun w'=>w'.cell? ⟨b,0,none⟩=some (.int .i64 v)∧w'.cell? ⟨b,1,none⟩=some (.int .i32 s)∧w'.cell? ⟨w.heap.size,0,none⟩=some (.int .i64 y)∧w'.cell? ⟨w.heap.size,1,none⟩=some (.int .i32 t)) (go_keep)
  (first|(go_at_call 134;refine(PS.out _).mono ?_;rintro e w2 ⟨cc,ok,rfl,⟨m,rfl⟩,hok,hc64⟩;have HO:=Lh (Aj hok hc64);clear hok hc64))
 cases ok
 ·go_wp2_with fail
  go_ret
  exact AddRet.non H.out.2 H.out.1 _
 ·go_wp2_with fail
  refine(IA.out cc _ HO.out.2).mono ?_
  rintro e w3 ⟨c2,ok,rfl,⟨m2,rfl⟩,hok,hc64⟩
  have HO2:=Lh (Aj hok hc64)
  clear hok hc64
  cases ok
  ·go_wp2_with fail
   go_ret
   exact AddRet.non H.out.2 H.out.1 _
  ·go_wp2_with fail
   go_ret
   exact AddRet.sum2 H.out.2 H.out.1 _ HO2.out.2 (HP.out cc c2 (HO.out.1 (by first|rfl|trivial)) (HO2.out.1 (by first|rfl|trivial)))
theorem amtAdd_lt (b:Nat) (v s y t:Int) (n:Nat) (hn:t=s+n) (hn0:0<n) (hs:-400≤s) (hn1:n≤10000) (d st f:Value) (w:World) (h:Hd w b 70 (qc v s d st f)) (hv:i64 v) (hy:i64 y) (hy0:y≠0) (hv0:v≠0):Calls Tryz.prog 96 #[.pointer (some ⟨b,0,none⟩),amt y t] w (AddRet w b v s y t d st f):=by
 have h1:=Hd.mod h ((Mod.refl [] w).alloc (.cells #[.int .i64 y,.int .i32 t] 64)) (by simp)
 have c0:=h1.cell (i:=0) (v:=.int .i64 v) rfl
 have c1:=h1.cell (i:=1) (v:=.int .i32 s) rfl
 have fr:=h1.free
 have ma:Mod [b] w (w.alloc (.cells #[.int .i64 y,.int .i32 t] 64)):=(Mod.refl [b] w).alloc _
 have ty:(y==0)=false:=by simpa using hy0
 have tv:(v==0)=false:=by simpa using hv0
 have ts:(s==t)=false:=by simp;omega
 have tg:decide (t<s)=false:=by simp;omega
 have T:=Lh<| show IntKind.i32.wrap (t-s)=(n:Int) by rw[IntKind.wrap_i32];omega
 have PS:=Lh (fun w=>positiveScale_calls y n w hy (by omega))
 have IA:=Lh (fun c w (hc:i64 c)=>int64Add_calls v c w hv hc)
 have hsc:sc t=sc s*10^n:=by rw[hn];exact sc_add hs
 have HP:=Lh (fun(cc c2:Int) (q1:cc=y*((10^n:Nat):Int)) (q2:c2=v+cc)=>(show c2*sc s=v*sc s+y*sc t by
  rw[hsc,q2,q1,Int.add_mul,Int.natCast_mul,Int.mul_assoc y,Int.mul_comm (sc s:Int)]))
 have hbx:=Hd.new w 64 #[.int .i64 y,.int .i32 t]
 have H:=Lh (Aj h1 (Aj ma hbx))
 clear ma h h1 hbx hy hy0 hv hv0 hn hn0 hs hn1 hsc
 have tt:=T.out
 unfold amt
 go_enter Tryz.func96,Tryz.ntmps96
 go_wp2_with fail
 go_quiet (fail)
 go_wp2_with fail
 generalize nq=q1 at*
 go_quiet (fail)
 go_wp2_with fail
 obtain⟨h1,ma,hbx⟩:=H.out
 have h9:=Hd.mod (Hd.mod h1 ((Mod.refl [] _).drewN q1) (by simp)) ((Mod.refl [] _).drewN nq) (by simp)
 have b9:=Hd.mod (Hd.mod hbx ((Mod.refl [] _).drewN q1) (by simp)) ((Mod.refl [] _).drewN nq) (by simp)
 have m9:=(ma.drewN q1).drewN nq
 clear c0 c1 fr h1 ma hbx H
 generalize ((w.alloc (.cells #[.int .i64 y,.int .i32 t] 64)).drewN q1).drewN nq=w9 at*
 have c0:=h9.cell (i:=0) (v:=.int .i64 v) rfl
 have c1:=h9.cell (i:=1) (v:=.int .i32 s) rfl
 have d0:=b9.cell (i:=0) (v:=.int .i64 y) rfl
 have d1:=b9.cell (i:=1) (v:=.int .i32 t) rfl
 have fr:=h9.free
 have H:=Lh (Aj h9 m9)
 clear h9 b9 m9
 go_region_held3 (fun w'=>w'.cell? ⟨b,0,none⟩=some (.int .i64 v)∧w'.cell? ⟨b,1,none⟩=some (.int .i32 s)∧w'.cell? ⟨w.heap.size,0,none⟩=some (.int .i64 y)∧w'.cell? ⟨w.heap.size,1,none⟩=some (.int .i32 t)) (go_keep)
  (first|(go_at_call 134;refine(PS.out _).mono ?_;rintro e w2 ⟨cc,ok,rfl,⟨m,rfl⟩,hok,hc64⟩;have HO:=Lh (Aj hok hc64);clear hok hc64))
 cases ok
 ·go_wp2_with fail
  go_ret
  exact AddRet.non H.out.2 H.out.1 _
 ·go_wp2_with fail
  refine(IA.out cc _ HO.out.2).mono ?_
  rintro e w3 ⟨c2,ok,rfl,⟨m2,rfl⟩,hok,hc64⟩
  have HO2:=Lh (Aj hok hc64)
  clear hok hc64
  cases ok
  ·go_wp2_with fail
   go_ret
   exact AddRet.non H.out.2 H.out.1 _
  ·go_wp2_with fail
   go_ret
   exact AddRet.sum H.out.2 H.out.1 _ HO2.out.2 (HP.out cc c2 (HO.out.1 (by first|rfl|trivial)) (HO2.out.1 (by first|rfl|trivial)))
theorem amtAdd_calls (b:Nat) (v s y t:Int) (d st f:Value) (w:World) (h:Hd w b 70 (qc v s d st f)) (hv:i64 v) (hy:i64 y) (h1:-400≤s) (h2:s≤1000) (h3:-400≤t) (h4:t≤1000):Calls Tryz.prog 96 #[.pointer (some ⟨b,0,none⟩),amt y t] w (AddRet w b v s y t d st f):=by
 by_cases hy0:y=0
 ·subst hy0;exact amtAdd_zero b v s t d st f w h hv
 by_cases hv0:v=0
 ·subst hv0;exact amtAdd_from0 b s y t d st f w h hy hy0
 rcases Int.lt_trichotomy s t with hst|hst|hst
 ·exact amtAdd_lt b v s y t (t-s).toNat (by omega) (by omega) h1 (by omega) d st f w h hv hy hy0 hv0
 ·subst hst;exact amtAdd_same b v s y d st f w h hv hy hy0 hv0
 ·exact amtAdd_gt b v s y t (s-t).toNat (by omega) (by omega) h3 (by omega) d st f w h hv hy hy0 hv0
theorem amtSub_calls (b:Nat) (v s y t:Int) (d st f:Value) (w:World) (h:Hd w b 70 (qc v s d st f)) (hv:i64 v) (hy:i64 y) (hym:y≠-9223372036854775808) (h1:-400≤s) (h2:s≤1000) (h3:-400≤t) (h4:t≤1000):Calls Tryz.prog 98 #[.pointer (some ⟨b,0,none⟩),amt y t] w (AddRet w b v s (-y) t d st f):=by
 have hy2:i64 (-y):=by unfold i64 at*;omega
 have T:=Lh<| show wrap64 (-y)=-y by unfold i64 at*;unfold wrap64;omega
 have hh:=Hd.mod h ((Mod.refl [] w).alloc (.cells #[.int .i64 y,.int .i32 t] 64)) (by simp)
 have AD:=amtAdd_calls b v s (-y) t d st f _ hh hv hy2 h1 h2 h3 h4
 unfold amt at AD
 rw[←T.out] at AD
 have HA:=Lh AD
 clear AD hh hy hym hy2
 unfold amt
 go_enter Tryz.func98,Tryz.ntmps98
 go_wp2_with fail
 refine HA.out.mono ?_
 rintro e w' ⟨m,hr⟩
 have m2:Mod [b] w w':=(((Mod.refl [b] w).alloc _)).trans m
 rcases hr with ⟨rfl,v',s',k1,k2,k3,k4⟩|⟨rfl,k1⟩
 ·rw[T.out] at k4
  have HF:=Lh (AddRet.yes m2 k1 k2 k3 k4)
  clear k1 k2 k3 k4 m m2
  go_wp2_with fail
  go_ret
  exact HF.out
 ·have HF:=Lh (AddRet.no (v:=v) (s:=s) (y:=-y) (t:=t) m2 k1)
  clear k1 m m2
  go_wp2_with fail
  go_ret
  exact HF.out
end Go.Proofs.YtcpjclakdpjjfaaGreatDoor
