/- Amounts of 64 bits: products; AsScaledInt64, the digits by 1024 (resource/amount. -/
import Derived.Test.YtcpjclakdpjjfaaGreatDoorC23
import Derived.Test.YtcpjclakdpjjfaaGreatDoorC24
import Derived.Test.YtcpjclakdpjjfaaGreatDoorC25
import Derived.Test.YtcpjclakdpjjfaaGreatDoorC21
set_option maxHeartbeats 8000000
set_option maxRecDepth 10000
namespace Go.Proofs.YtcpjclakdpjjfaaGreatDoor
open Go.RowKit Wd Dg
def AMulRet (w:World) (b:Nat) (v s y:Int) (d st f:Value) (e:Ending) (w':World):Prop:=
 Mod [b] w w'∧((e=.returned (.bool true)∧∃v' s',Hd w' b 70 (qc v' s' d st f)∧i64 v'∧(s'=s∨s'=0)∧v'*sc s'=v*sc s*y)∨(e=.returned (.bool false)∧Hd w' b 70 (qc v s d st f)))
theorem AMulRet.set {w:World} {b:Nat} {v s y cc:Int} {d st f:Value} (h:Hd w b 70 (qc v s d st f)) (k:Nat) (hc:i64 cc) (h3:cc=v*y):AMulRet w b v s y d st f (.returned (.bool true)) ((w.drewN k).setCell ⟨b,0,none⟩ (.int .i64 cc)):=
 ⟨((Mod.refl [b] w).drewN k).setCell _ (.inl (by simp)),.inl ⟨rfl,cc,s,Hd.set (h.mod ((Mod.refl [] w).drewN k) (by simp)) 0 (.int .i64 cc),hc,.inl rfl,by rw[h3,Int.mul_right_comm]⟩⟩
theorem AMulRet.non {w:World} {b:Nat} {v s y:Int} {d st f:Value} (h:Hd w b 70 (qc v s d st f)) (k:Nat):AMulRet w b v s y d st f (.returned (.bool false)) (w.drewN k):=
 ⟨(Mod.refl [b] w).drewN k,.inr ⟨rfl,h.mod ((Mod.refl [] w).drewN k) (by simp)⟩⟩
theorem amtMul_calls (b:Nat) (v s y:Int) (d st f:Value) (w:World) (h:Hd w b 70 (qc v s d st f)) (hv:i64 v) (hy:i64 y) (h1:-400≤s) (h2:s≤1000):Calls Tryz.prog 91 #[.pointer (some ⟨b,0,none⟩),.int .i64 y] w (AMulRet w b v s y d st f):=by
 have c0:=h.cell (i:=0) (v:=.int .i64 v) rfl
 have c1:=h.cell (i:=1) (v:=.int .i32 s) rfl
 have fr:=h.free
 have H:=Lh h
 have IM:=Lh (fun w=>int64Multiply_calls v y w hv hy)
 by_cases hv0:v=0
 ·subst hv0
  clear h hv hy
  go_enter Tryz.func91,Tryz.ntmps91
  go_wp2_with fail
  go_ret
  exact⟨Mod.refl _ _,.inl ⟨rfl,0,s,H.out,by unfold i64;omega,.inl rfl,by simp⟩⟩
 have tv:(v==0)=false:=by simpa using hv0
 by_cases hy0:y=0
 ·subst hy0
  clear h hv hy hv0
  have f1:(w.setCell ⟨b,0,none⟩ (.int .i64 0)).frozen? ⟨b,1,none⟩=false:=(H.out.set 0 (.int .i64 0)).free 1
  have e1:(w.setCell ⟨b,0,none⟩ (.int .i64 0)).cell? ⟨b,1,none⟩=some (.int .i32 s):=(H.out.set 0 (.int .i64 0)).cell rfl
  go_enter Tryz.func91,Tryz.ntmps91
  go_wp2_with fail
  go_ret
  exact⟨((Mod.refl [b] w).setCell _ (.inl (by simp))).setCell _ (.inl (by simp)),.inl ⟨rfl,0,0,(H.out.set 0 (.int .i64 0)).set 1 (.int .i32 0),by unfold i64;omega,.inr rfl,by simp⟩⟩
 have ty:(y==0)=false:=by simpa using hy0
 rcases Int.lt_trichotomy s 0 with hs|hs|hs
 ·have t1:(s==0)=false:=by simp;omega
  have t2:decide (0<s)=false:=by simp;omega
  obtain⟨n,hn⟩:∃n:Nat,n=(-s).toNat:=⟨_,rfl⟩
  have T:=Lh<| show wrap32 (-s)=(n:Int) by unfold wrap32;omega
  have NS:=Lh (fun c w (hc:i64 c)=>negativeScale_calls c n w hc (by omega))
  clear h hv hy hv0 hy0 hn hs h1 h2
  have tt:=T.out
  go_enter Tryz.func91,Tryz.ntmps91
  go_wp2_with fail
  refine(IM.out _).mono ?_
  rintro e w1 ⟨cc,ok,rfl,⟨m,rfl⟩,hok,hc64⟩
  have HO:=Lh (Aj hok hc64)
  clear hok hc64
  cases ok
  ·go_wp2_with fail
   go_ret
   exact AMulRet.non H.out _
  ·go_wp2_with fail
   refine(NS.out cc _ HO.out.2).mono ?_
   rintro e w2 ⟨rfl,rfl⟩
   generalize up cc (10^n)=U at*
   generalize nsF cc n=F at*
   cases F
   ·go_wp2_with fail
    go_ret
    exact AMulRet.set H.out _ HO.out.2 (HO.out.1 (by first|rfl|trivial))
   ·go_wp2_with fail
    go_ret
    exact AMulRet.non H.out _
 ·subst hs
  clear h hv hy hv0 hy0 h1 h2
  go_enter Tryz.func91,Tryz.ntmps91
  go_wp2_with fail
  refine(IM.out _).mono ?_
  rintro e w1 ⟨cc,ok,rfl,⟨m,rfl⟩,hok,hc64⟩
  have HO:=Lh (Aj hok hc64)
  clear hok hc64
  cases ok
  ·go_wp2_with fail
   go_ret
   exact AMulRet.non H.out _
  ·go_wp2_with fail
   go_ret
   exact AMulRet.set H.out _ HO.out.2 (HO.out.1 (by first|rfl|trivial))
 ·have t1:(s==0)=false:=by simp;omega
  have t2:decide (0<s)=true:=by simp;omega
  obtain⟨n,rfl⟩:∃n:Nat,s=n:=⟨s.toNat,by omega⟩
  have t3:decide (0<n)=true:=by simp;omega
  have PS:=Lh (fun c w (hc:i64 c)=>positiveScale_calls c n w hc (by omega))
  clear h hv hy hv0 hy0 hs h1 h2
  go_enter Tryz.func91,Tryz.ntmps91
  go_wp2_with fail
  refine(IM.out _).mono ?_
  rintro e w1 ⟨cc,ok,rfl,⟨m,rfl⟩,hok,hc64⟩
  have HO:=Lh (Aj hok hc64)
  clear hok hc64
  cases ok
  ·go_wp2_with fail
   go_ret
   exact AMulRet.non H.out _
  ·go_wp2_with fail
   refine(PS.out cc _ HO.out.2).mono ?_
   rintro e w2 ⟨c2,ok,rfl,⟨m2,rfl⟩,hok,hc64⟩
   clear hok hc64
   cases ok
   ·go_wp2_with fail
    go_ret
    exact AMulRet.non H.out _
   ·go_wp2_with fail
    go_ret
    exact AMulRet.set H.out _ HO.out.2 (HO.out.1 (by first|rfl|trivial))
theorem amtScaled0 (v s:Int) (w:World) (hv:i64 v) (h1:-10000≤s) (h2:s≤10000):
 Calls Tryz.prog 322 #[amt v s,.int .i32 0] w fun e w'=>Mod [] w w'∧∃c ok,e=.returned (.tuple #[.int .i64 c,.bool ok])∧i64 c∧(ok=true→(∃n:Nat,s=n∧c=v*(10^n:Nat))∨(∃n:Nat,0<n∧s=-(n:Int)∧c=up v (10^n))):=by
 have ma:Mod [] w (w.alloc (.cells #[.int .i64 v,.int .i32 s] 64)):=(Mod.refl [] w).alloc _
 have HM:=Lh ma
 clear ma
 unfold amt
 rcases Int.lt_or_le s 0 with hs|hs
 ·have t1:decide (s<0)=true:=by simp;omega
  obtain⟨n,hn⟩:∃n:Nat,s=-(n:Int):=⟨(-s).toNat,by omega⟩
  have T:=Lh<| show wrap32 (0-s)=(n:Int) by unfold wrap32;omega
  have T2:=Lh<| show wrap32 (-s)=(n:Int) by unfold wrap32;omega
  have NS:=Lh (fun w=>negativeScale_calls v n w hv (by omega))
  have HN:=Lh (Aj hn (Aj (show 0<n by omega) hv))
  clear hn hs h1 h2 hv
  have tt:=T.out
  have tt2:=T2.out
  go_enter Tryz.func322,Tryz.ntmps322
  go_wp2_with fail
  refine(NS.out _).mono ?_
  rintro e w2 ⟨rfl,rfl⟩
  have hu:i64 (up v (10^n)):=by
   have h1:(up v (10^n)).natAbs≤v.natAbs:=by
    rw[ns_end]
    by_cases hf:nsF v n=true
    ·rw[if_pos hf]
     have:=nsF_room hf
     have:=nsV_sgn v n
     split<;>omega
    ·rw[if_neg hf];exact nsV_le v n
   have h2:(0≤v→0≤up v (10^n)):=fun h=>by unfold up;rw[if_neg (by omega)];omega
   have h2b:(v<0→up v (10^n)≤0):=fun h=>by unfold up;rw[if_pos h];omega
   have h3:=HN.out.2.2
   unfold i64 at h3 ⊢
   omega
  have HU:=Lh hu
  have HX:∃U,U=up v (10^n):=⟨_,rfl⟩
  obtain⟨U,hU⟩:=HX
  rw[←hU] at HU ⊢
  have HUU:=Lh hU
  generalize (!nsF v n)=F at*
  clear hu hU
  go_wp2_with fail
  go_ret2
  exact⟨HM.out,U,true,rfl,HU.out,fun _=>.inr ⟨n,HN.out.2.1,HN.out.1,HUU.out⟩⟩
 ·have t1:decide (s<0)=false:=by simp;omega
  obtain⟨n,rfl⟩:∃n:Nat,s=n:=⟨s.toNat,by omega⟩
  have T:=Lh<| show wrap32 (n:Int)=(n:Int) by unfold wrap32;omega
  have PS:=Lh (fun w=>positiveScale_calls v n w hv (by omega))
  clear hs h1 h2 hv
  have tt:=T.out
  go_enter Tryz.func322,Tryz.ntmps322
  go_wp2_with fail
  refine(PS.out _).mono ?_
  rintro e w2 ⟨cc,ok,rfl,⟨m,rfl⟩,hok,hc64⟩
  have HO:=Lh (Aj hok hc64)
  clear hok hc64
  go_wp2_with fail
  go_ret2
  exact⟨HM.out.drewN _,cc,ok,rfl,HO.out.2,fun h=>.inl ⟨n,rfl,HO.out.1 h⟩⟩
end Go.Proofs.YtcpjclakdpjjfaaGreatDoor
namespace Go.Proofs.YtcpjclakdpjjfaaGreatDoor
open Go.RowKit Wd Dg
structure DB (n c:Int):Prop where
 n:n.natAbs<B^12
 lo:-170≤c
 hi:c≤170
theorem DB.b7 {n c:Int} (h:DB n c):n.natAbs<B^20:=Nat.lt_trans h.n (Nat.pow_lt_pow_right B_one (by omega))
theorem DB.big {n c:Int} (h:DB n c):n.natAbs<Big:=Nat.lt_trans h.n (by rw[Big_eq];exact Nat.pow_lt_pow_right B_one (by omega))
theorem DB.pow {n c:Int} (h:DB n c) {k:Nat} (hk:k≤400):(n*(10^k:Nat)).natAbs<Big:=by
 rw[Int.natAbs_mul,Int.natAbs_natCast]
 have h2:10^k≤B^21:=Nat.le_trans (Nat.pow_le_pow_right (by decide) hk) (by rw[B_eq];decide+kernel)
 have h3:n.natAbs*10^k<B^12*B^21:=Nat.lt_of_lt_of_le (Nat.mul_lt_mul_of_pos_right h.n (Nat.pow_pos (by decide))) (Nat.mul_le_mul_left _ h2)
 rw[←Nat.pow_add] at h3
 exact Nat.lt_trans h3 (by rw[Big_eq];exact Nat.pow_lt_pow_right B_one (by omega))
theorem up_abs {M:Int} {p:Nat} (hp:0<p):(up M p).natAbs≤M.natAbs:=by
 have h:upA M.natAbs p≤M.natAbs:=by
  unfold upA
  rcases Nat.eq_zero_or_pos M.natAbs with h|h
  ·rw[h];simp[Nat.div_eq_of_lt (show p-1<p by omega)]
  ·rw[Nat.div_le_iff_le_mul_add_pred hp]
   have:M.natAbs≤p*M.natAbs:=Nat.le_mul_of_pos_left _ hp
   omega
 unfold up
 split<;>omega
theorem DB.rnd {n c s:Int} (h:DB n c) (h2:s≤170):(rnd n c s).natAbs<Big:=by
 unfold Go.Proofs.YtcpjclakdpjjfaaGreatDoor.rnd
 split
 ·have:=h.lo
  exact h.pow (by omega)
 ·exact Nat.lt_of_le_of_lt (up_abs (Nat.pow_pos (by decide))) h.big
theorem rndDown {n c s:Int} (hs:s≤c):(Go.Proofs.YtcpjclakdpjjfaaGreatDoor.rnd n c s).natAbs≤n.natAbs:=by
 unfold Go.Proofs.YtcpjclakdpjjfaaGreatDoor.rnd
 split
 ·have:(s-c).toNat=0:=by omega
  rw[this];simp
 ·exact up_abs (Nat.pow_pos (by decide))
theorem infScale_calls (s:Int) (w:World) (h1:-100000≤s) (h2:s≤100000):Calls Tryz.prog 67 #[.int .i32 s] w fun e w'=>e=.returned (.int .i32 (-s))∧w=w':=by
 go_enter Tryz.func67,Tryz.ntmps67
 go_wp2_with fail
 go_ret
 exact⟨rfl,rfl⟩
theorem DB.powLe {n c r:Int} (h:DB n c) (hr:r.natAbs≤n.natAbs) {k:Nat} (hk:k≤400):(r*(10^k:Nat)).natAbs<Big:=by
 refine Nat.lt_of_le_of_lt ?_ (h.pow hk)
 rw[Int.natAbs_mul,Int.natAbs_mul]
 exact Nat.mul_le_mul_right _ hr
def InfAsRet (w:World) (n c s:Int) (e:Ending) (w':World):Prop:=
 ∃b v',e=.returned (.tuple #[.agg #[.pointer (some ⟨b,0,none⟩)],.bool (cmpZI (dV (rnd n c s) s) (dV n c)==0)])∧NewRes w (some s) (rnd n c s) b v' w'
theorem infAsScale_calls (bd:Nat) (c n sc0:Int) (vd:Value) (w:World) (he:Env w) (hx:IA w bd (some c) n vd) (hb:DB n c) (h1:-170≤sc0) (h2:sc0≤170):
 Calls Tryz.prog 86 #[.agg #[.pointer (some ⟨bd,0,none⟩)],.int .i32 sc0] w (InfAsRet w n c (-sc0)):=by
 obtain⟨s,hs⟩:∃s,s=-sc0:=⟨_,rfl⟩
 rw[←hs]
 have SCL:=Lh (fun w=>infScale_calls sc0 w (by omega) (by omega))
 rw[←hs] at SCL
 have hs1:-170≤s∧s≤170:=by omega
 have ma:Mod [] w ((w.alloc (.cells #[.pointer (some ⟨bd,0,none⟩)] 67)).alloc (.cells #[.pointer none] 67)):=((Mod.refl [] w).alloc _).alloc _
 have hWs:((w.alloc (.cells #[.pointer (some ⟨bd,0,none⟩)] 67)).alloc (.cells #[.pointer none] 67)).heap.size=w.heap.size+2:=by simp
 have heW:=he.mod ma (by simp)
 have nd:=new_dec _ heW.big
 rw[hWs] at nd
 have hb0:=Hd.mod (Hd.mod (Hd.new w 67 #[.pointer (some ⟨bd,0,none⟩)]) ((Mod.refl [] _).alloc (.cells #[.pointer none] 67)) (by simp)) ((Mod.refl [] _).alloc (.cells #[.bool false,.slice none 0 0,.int .i32 0] 123)) (by simp)
 have hb1:=Hd.mod (Hd.new (w.alloc (.cells #[.pointer (some ⟨bd,0,none⟩)] 67)) 67 #[.pointer none]) ((Mod.refl [] _).alloc (.cells #[.bool false,.slice none 0 0,.int .i32 0] 123)) (by simp)
 rw[show (w.alloc (.cells #[.pointer (some ⟨bd,0,none⟩)] 67)).heap.size=w.heap.size+1 by simp] at hb1
 have hxU:=nd.apart (hx.mod ma (by simp) (by simp))
 have mU:=ma.trans nd.mod
 have heU:=he.mod mU (by simp)
 have hlt:=hx.lt
 have hvl:=hx.nv.zs.lt
 have HX:=Lh (Aj hb (Aj hs1 (Aj mU (Aj heU (Aj nd.ia (Aj hxU (Aj hlt hvl)))))))
 have HB:=Lh (Aj hb0 hb1)
 clear hs h1 h2 hx hb ma hWs heW nd hb0 hb1 hxU mU heU he hlt hvl hs1
 go_enter Tryz.func86,Tryz.ntmps86
 go_wp2_with fail
 generalize ((w.alloc (.cells #[.pointer (some ⟨bd,0,none⟩)] 67)).alloc (.cells #[.pointer none] 67)).alloc (.cells #[.bool false,.slice none 0 0,.int .i32 0] 123)=U at*
 obtain⟨hb,⟨h1,h2⟩,mU,heU,ia,⟨hne,hsb,hx⟩,hlt,hvl⟩:=HX.out
 have c0:=HB.out.1.cell (i:=0) (v:=.pointer (some ⟨bd,0,none⟩)) rfl
 have RO:=Lh (fun k=>dec_round (w.heap.size+2) bd 0 c s 0 n _ vd (U.drewN k) (heU.drewN k) (ia.drewN k) (hx.drewN k) (by have:=hb.lo;omega) (by have:=hb.hi;omega) (by omega) (by omega) (by have:=hb.lo;have:=hb.hi;omega) (by have:=hb.lo;have:=hb.hi;omega) hb.big (fun k hk=>hb.pow (by have:=hb.lo;omega)) (hb.rnd h2))
 clear hb h1 h2 mU heU ia hne hsb hx hlt hvl
 go_region_law (first
  |(go_simp;go_at_call 67;refine(SCL.out _).mono ?_;rintro e w3 ⟨rfl,rfl⟩)
  |(go_simp;go_at_call 77;refine(roundUp_calls _).mono ?_;rintro e w4 ⟨rfl,rfl⟩)
  |(go_simp;go_at_call 76;refine(RO.out _).mono ?_;rintro e w5 ⟨rfl,v',hr⟩;have HR:=Lh hr;clear hr))
 all_goals
  obtain⟨hb,⟨h1,h2⟩,mU,heU,ia,⟨hne,hsb,hx⟩,hlt,hvl⟩:=HX.out
  have hr:=HR.out
  have m5:Mod [w.heap.size+2] U w5:=((Mod.refl _ U).drewN _).trans (hr.mod.mono (fun x hx=>.inl (by simp[sb] at hx;simp[hx])))
  have hb0:=HB.out.1.mod m5 (by simp)
  have hb1:=HB.out.2.mod m5 (by simp)
  have d0:=hb0.cell (i:=0) (v:=.pointer (some ⟨bd,0,none⟩)) rfl
  have hx5:=hx.mod m5 (by simp[hne]) (fun k hk hm=>by have:=hvl k hk;rw[List.mem_singleton.1 hm] at this;omega)
  have he5:=heU.mod m5 (by have:=ia.lo;simp;omega)
  have hlo:=hb.lo
  have hhi:=hb.hi
  have CM:=Lh (dec_cmp (w.heap.size+2) bd s c (rnd n c s) n v' vd w5 he5 hr.ia hx5 hne.symm (by omega) (by omega) (by omega) (by omega) (by omega) (by omega) (hb.rnd h2) hb.big (fun k hk=>hb.powLe (rndDown (by omega)) (by omega)) (fun k hk=>hb.pow (by omega)))
  have hnr:NewRes w (some s) (rnd n c s) (w.heap.size+2) v' w5:=⟨hr.ia,mU.step m5 (fun x hx=>.inr (by rw[List.mem_singleton.1 hx];omega)),by omega,fun k hk=>(hr.own k hk).elim (fun h=>by simp[sb] at h) (fun h=>by have:=mU.size;simp at h;omega)⟩
  have HN:=Lh hnr
  have HB1:=Lh hb1
  clear hb h1 h2 mU heU ia hne hsb hx hlt hvl hr m5 hb0 hb1 hx5 he5 hlo hhi hnr
  go_wp2_with fail
  refine CM.out.mono ?_
  rintro e w6 ⟨rfl,m6⟩
  have hb6:=HB1.out.mod m6 (by simp)
  have e0:=hb6.cell (i:=0) (v:=.pointer none) rfl
  have e1:=hb6.free 0
  have e2:(w6.setCell ⟨w.heap.size+1,0,none⟩ (.pointer (some ⟨w.heap.size+1+1,0,none⟩))).cell? ⟨w.heap.size+1,0,none⟩=some (.pointer (some ⟨w.heap.size+1+1,0,none⟩)):=(hb6.set 0 (.pointer (some ⟨w.heap.size+1+1,0,none⟩))).cell (i:=0) rfl
  have HF:=Lh (Aj m6 hb6)
  clear m6 hb6
  go_wp2_with fail
  (try simp only[Exit.inBlock,Exit.then])
  refine bodyPost_ret (by simp[results,Tryz.results86,go_sem,e2];try rfl) rfl ?_
  have q:NewRes w (some s) (rnd n c s) (w.heap.size+2) v' (w6.setCell ⟨w.heap.size+1,0,none⟩ (.pointer (some ⟨w.heap.size+2,0,none⟩))):=by
   have m7:Mod [w.heap.size+1] w5 (w6.setCell ⟨w.heap.size+1,0,none⟩ (.pointer (some ⟨w.heap.size+2,0,none⟩))):=(HF.out.1.mono (by simp)).setCell _ (.inl (by simp))
   have hn:=HN.out
   exact⟨hn.ia.mod m7 (by simp) (fun k hk hm=>by
    rw[List.mem_singleton.1 hm] at hk
    exact absurd hk (HB1.out.not_sb hn.ia.nv.zs (by decide))),hn.mod.step m7 (fun x hx=>.inr (by rw[List.mem_singleton.1 hx];omega)),hn.own⟩
  exact⟨w.heap.size+2,v',rfl,q⟩
end Go.Proofs.YtcpjclakdpjjfaaGreatDoor
namespace Go.Proofs.YtcpjclakdpjjfaaGreatDoor
open Go.RowKit Wd Dg
def BnRet (N:Int) (w:World) (e:Ending) (w':World):Prop:=
 ∃(v:Value) (M:Int) (k:Nat),e=.returned (.tuple #[v,.int .i32 k])∧Bn N M k∧Bs w' w.heap.size v (Lib.itoa M)∧Mod [] w w'∧k≤4096
theorem inf1024_calls (bd:Nat) (c n:Int) (vd:Value) (w:World) (he:Env w) (hx:IA w bd (some c) n vd) (hb:DB n c) (N:Int) (hN:N=rnd n c 0) (hN0:N≠0) (hN7:N.natAbs<B^8) (o:Value) (ho:o=.slice none 0 0):
 Calls Tryz.prog 323 #[.agg #[.pointer (some ⟨bd,0,none⟩)],o] w (BnRet N w):=by
 obtain⟨i5,hi5,hz5⟩:=Option.map_eq_some_iff.1 info5
 simp only[Prod.mk.injEq] at hz5
 have INF:=Lh (Aj hi5 hz5)
 clear hi5 hz5
 have ma:Mod [] w (w.alloc (.cells #[.pointer (some ⟨bd,0,none⟩)] 67)):=(Mod.refl [] w).alloc _
 have hWs:(w.alloc (.cells #[.pointer (some ⟨bd,0,none⟩)] 67)).heap.size=w.heap.size+1:=by simp
 have heW:=he.mod ma (by simp)
 have nd:=new_dec _ heW.big
 rw[hWs] at nd
 have hb0:=Hd.mod (Hd.new w 67 #[.pointer (some ⟨bd,0,none⟩)]) ((Mod.refl [] _).alloc (.cells #[.bool false,.slice none 0 0,.int .i32 0] 123)) (by simp)
 have hxU:=nd.apart (hx.mod ma (by simp) (by simp))
 have mU:=ma.trans nd.mod
 have heU:=he.mod mU (by simp)
 have HX:=Lh (Aj hb (Aj mU (Aj heU (Aj nd.ia hxU))))
 have HB:=Lh hb0
 have HN:=Lh (Aj hN (Aj hN0 (Aj hN7 (Aj he ho))))
 clear hx hb ma hWs heW nd hb0 hxU mU heU he hN hN0 hN7 ho
 go_enter Tryz.func323,Tryz.ntmps323
 go_wp2_with fail
 generalize (w.alloc (.cells #[.pointer (some ⟨bd,0,none⟩)] 67)).alloc (.cells #[.bool false,.slice none 0 0,.int .i32 0] 123)=U at*
 obtain⟨hb,mU,heU,ia,hne,hsb,hx⟩:=HX.out
 have c0:=HB.out.cell (i:=0) (v:=.pointer (some ⟨bd,0,none⟩)) rfl
 have hlo:=hb.lo
 have hhi:=hb.hi
 have RO:=Lh (fun k=>dec_round (w.heap.size+1) bd 0 c 0 0 n _ vd (U.drewN k) (heU.drewN k) (ia.drewN k) (hx.drewN k) (by omega) (by omega) (by omega) (by omega) (by omega) (by omega) hb.big (fun k hk=>hb.pow (by omega)) (hb.rnd (by omega)))
 rw[←HN.out.1] at RO
 clear hb mU heU ia hne hsb hx hlo hhi
 go_region_law (first
  |(go_simp;go_at_call 77;refine(roundUp_calls _).mono ?_;rintro e w4 ⟨rfl,rfl⟩)
  |(go_simp;go_at_call 76;refine(RO.out _).mono ?_;rintro e w5 ⟨rfl,v',hr⟩;have HR:=Lh hr;clear hr))
 all_goals
  obtain⟨hb,mU,heU,ia,hne,hsb,hx⟩:=HX.out
  have hr:=HR.out
  have hge:w.heap.size≤w.heap.size+1:=by omega
  have m5:Mod [] w w5:=(mU.drewN _).step hr.mod (fun x hx=>.inr (by simp[sb] at hx;omega))
  have he5:Env w5:=heU.mod (((Mod.refl _ U).drewN _).trans hr.mod) (by have:=ia.lo;simp[sb];omega)
  have hlt5:=hr.ia.lt
  have NI:=Lh (newInt_calls 1024 w5 he5.big (by decide) (by decide))
  have HR2:=Lh (Aj hr (Aj m5 (Aj he5 (Aj mU.size hge))))
  clear hb mU heU ia hne hsb hx hr m5 he5 hlt5 hge
  go_wp2_with fail
  refine(dec_unscaledBig (w.heap.size+1) _).mono ?_
  rintro e w6 ⟨rfl,rfl⟩
  go_wp2_with fail
  refine NI.out.mono ?_
  rintro e w6 ⟨bf,vf,rfl,hnr⟩
  have hap:=hnr.apart HR2.out.1.ia
  have he6:=hnr.env HR2.out.2.2.1
  have RM:=Lh (removeBig_calls w N 1024 (w.heap.size+1) bf (some 0) v' vf w6 he6 (HR2.out.2.1.trans hnr.mod) hap.2.2 hnr.ia hap.1 (fun j hj hj2=>hap.2.1 j hj2 hj) (by decide) (by rw[B_eq];decide+kernel) (Nat.lt_trans HN.out.2.2.1 (by rw[Big_eq];exact Nat.pow_lt_pow_right B_one (by omega))) HR2.out.2.2.2.2 (fun j hj=>(HR2.out.1.own j hj).elim (fun h=>by simp[sb] at h) (fun h=>by have:=HR2.out.2.2.2.1;simp at h;omega)))
  have HE6:=Lh (HR2.out.2.1.trans hnr.mod)
  clear hap he6 hnr
  go_wp2_with fail
  refine RM.out.mono ?_
  rintro e w7 ⟨b,k,v2,s2,n1,rfl,hn,hn1,hn2,-,hk⟩
  have hnN:N=n1*((1024^k:Nat):Int):=hn1
  have hn18:n1.natAbs<B^8:=by
   have h1:N.natAbs=n1.natAbs*1024^k:=by rw[hnN,Int.natAbs_mul,Int.natAbs_natCast]
   have h2:n1.natAbs≤n1.natAbs*1024^k:=Nat.le_mul_of_pos_right _ (Nat.pow_pos (by decide))
   have h3:=HN.out.2.2.1
   omega
  have hbn:Bn N n1 k:=⟨by rw[hnN];push_cast;rfl,hn2 HN.out.2.1⟩
  have hew:Env w7:=hn.env HN.out.2.2.2.1
  have ST:=Lh (int_string b s2 n1 v2 w7 hew hn.ia hn18)
  have hlen:=itoa_len n1 hn18
  have HE:=Lh (Aj hbn (Aj hn (Aj hlen (Nat.le_of_lt hk))))
  clear hbn hn hlen hk hew hn18 hnN hn1 hn2
  go_wp2_with fail
  refine ST.out.mono ?_
  rintro e w8 ⟨rfl,hm8⟩
  have HM8:=Lh (HE.out.2.1.mod.trans hm8)
  have hown:w8.ownsRow w.heap.size 5 1 o 0 []:=by rw[HN.out.2.2.2.2];exact World.ownsRow_nil w8 w.heap.size 5 1
  have HO:=Lh hown
  clear hm8 hown ST
  go_wp2_with (at_builtin;refine Lib.wpList_append_own_string _ rfl _ _ 79 9 rfl w.heap.size 5 i5 Tryz.underlying79 Tryz.underlying9 INF.out.1 INF.out.2.1 INF.out.2.2.1 INF.out.2.2.2 o 0 [] rfl HO.out ⟨(Lib.itoa n1).toArray⟩ rfl (by have:=HE.out.2.2.1;show 0+(Lib.itoa n1).toArray.size≤maxLen;unfold maxLen;simp;omega) (by have:=HE.out.2.2.1;show 0+(Lib.itoa n1).toArray.size≤_;simp;omega) HM8.out.size ?_;intro v5 w9 hown hgr hnil)
  have HV:=Lh (Aj hown hgr)
  clear hown hgr hnil
  go_wp2_with fail
  go_ret2
  refine⟨v5,n1,k,rfl,HE.out.1,?_,HM8.out.trans (Mod.grown HV.out.2 (fun q hq=>by rw[HN.out.2.2.2.2] at hq;cases hq)),HE.out.2.2.2⟩
  have h1:=HV.out.1
  have e1:0+(⟨(Lib.itoa n1).toArray⟩:ByteArray).size=(Lib.itoa n1).length:=by
   show 0+(Lib.itoa n1).toArray.size=_
   simp
  rw[e1] at h1
  exact h1
theorem amt1024 (v:Int) (s:Nat) (N:Int) (hN:N=v*((10^s:Nat):Int)) (w:World) (he:Env2 w) (hv:i64 v) (h0:N≠0) (hmin:N≠-9223372036854775808) (hs:s≤100) (o:Value) (ho:o=.slice none 0 0):
 Calls Tryz.prog 321 #[amt v s,o] w (BnRet N w):=by
 have ma:Mod [] w (w.alloc (.cells #[.int .i64 v,.int .i32 s] 64)):=(Mod.refl [] w).alloc _
 have he1:=he.new ma
 have hbx:=Hd.new w 64 #[.int .i64 v,.int .i32 s]
 have A0:=Lh (amtScaled0 v s (w.alloc (.cells #[.int .i64 v,.int .i32 s] 64)) hv (by omega) (by omega))
 have FB:=Lh (fun(w1:World) (m:Mod [] (w.alloc (.cells #[.int .i64 v,.int .i32 s] 64)) w1)=>amtAsDec v s w1 (he1.new m).env.big hv (by omega) (by omega))
 have hdb:DB v (-(s:Int)):=⟨Nat.lt_of_lt_of_le (show v.natAbs<B by unfold i64 at hv;rw[B_eq];omega) (by rw[show B^12=B*B^11 by rw[Nat.pow_succ,Nat.mul_comm]];exact Nat.le_mul_of_pos_right _ (Nat.pow_pos B_pos)),by omega,by omega⟩
 have hrn:N=rnd v (-(s:Int)) 0:=by
  unfold rnd
  rw[if_pos (by omega),hN]
  congr 3
  omega
 have hB8:N.natAbs<B^8:=by
  rw[hN,Int.natAbs_mul,Int.natAbs_natCast]
  have h1:v.natAbs<B:=by unfold i64 at hv;rw[B_eq];omega
  have h2:10^s≤B^7:=Nat.le_trans (Nat.pow_le_pow_right (by decide) hs) (by rw[B_eq];decide+kernel)
  have h3:v.natAbs*10^s<B*B^7:=Nat.lt_of_lt_of_le (Nat.mul_lt_mul_of_pos_right h1 (Nat.pow_pos (by decide))) (Nat.mul_le_mul_left _ h2)
  rw[Nat.mul_comm B,←Nat.pow_succ] at h3
  exact h3
 have FC:=Lh (fun(w1 w2:World) (b:Nat) (u:Value) (m:Mod [] w w1) (k:NewRes w1 (some (-(s:Int))) v b u w2)=>inf1024_calls b (-(s:Int)) v u w2 (k.env (he.new m).env) k.ia hdb N hrn h0 hB8 o ho)
 have H0:=Lh (Aj he (Aj ma (Aj hbx (Aj hN (Aj h0 (Aj hmin ho))))))
 clear he hv h0 ho ma he1 hbx hdb hrn hB8 hN hmin hs
 unfold amt at*
 go_enter Tryz.func321,Tryz.ntmps321
 go_wp2_with fail
 refine A0.out.mono ?_
 rintro e w2 ⟨m2,cc,ok,rfl,hc64,hok⟩
 have hb:=H0.out.2.2.1.mod m2 (by simp)
 have c0:=hb.cell (i:=0) (v:=.int .i64 v) rfl
 have c1:=hb.cell (i:=1) (v:=.int .i32 s) rfl
 have M2:=Lh (Aj m2 (Aj (H0.out.2.1.trans m2) hc64))
 cases ok
 ·have F1:=Lh (FB.out w2 m2)
  clear hok hb m2 hc64
  go_wp2_with fail
  refine F1.out.mono ?_
  rintro e w3 ⟨b,u,rfl,hnr⟩
  have F2:=Lh (FC.out w2 w3 b u M2.out.2.1 hnr)
  have M3:=Lh (M2.out.2.1.trans hnr.mod)
  clear hnr
  go_wp2_with fail
  refine F2.out.mono ?_
  rintro e w4 ⟨v5,M,k,rfl,hcn,hbs,hm4,hex⟩
  have HF:=Lh (Aj hcn (Aj hbs (Aj hm4 hex)))
  clear hcn hbs hm4 hex
  go_wp2_with fail
  go_ret2
  obtain⟨k1,k2,k3,k4⟩:=HF.out
  exact⟨v5,M,k,rfl,k1,k2.base M3.out.size,M3.out.trans k3,k4⟩
 ·have hcN:cc=N:=by
   rcases hok rfl with ⟨n,h1,h2⟩|⟨n,h1,h2,h3⟩
   ·have:n=s:=by omega
    subst this
    rw[h2];exact H0.out.2.2.2.1.symm
   ·omega
  subst hcN
  have RF:=Lh (rm1024_calls cc w2 hc64 H0.out.2.2.2.2.2.1)
  clear hok hb m2 hc64
  go_wp2_with fail
  refine RF.out.mono ?_
  rintro e w3 ⟨r,t,rfl,rfl,hr,h10,ht,hr64⟩
  have AP:=Lh (appendInt_calls r w2 (H0.out.1.new M2.out.2.1) hr64 o H0.out.2.2.2.2.2.2)
  have hbn:Bn cc r t:=⟨by rw[hr,Int.natCast_pow];rfl,h10 H0.out.2.2.2.2.1⟩
  have HE:=Lh (Aj hbn ht)
  clear hr h10 ht hr64 hbn
  go_wp2_with fail
  refine AP.out.mono ?_
  rintro e w4 ⟨v5,rfl,hbs,hm3⟩
  have HB:=Lh (Aj hbs hm3)
  clear hbs hm3
  go_wp2_with fail
  go_ret2
  exact⟨v5,r,t,rfl,HE.out.1,HB.out.1.base M2.out.2.1.size,M2.out.2.1.trans HB.out.2,Nat.le_trans HE.out.2 (by decide)⟩
end Go.Proofs.YtcpjclakdpjjfaaGreatDoor
namespace Go.Proofs.YtcpjclakdpjjfaaGreatDoor
open Go.RowKit Wd Dg
def QOk (w:World) (v s:Int) (d:Value) (V:Int) (bl:List Nat):Prop:=
 (d=.pointer none∧bl=[]∧i64 v∧-100≤s∧s≤100∧V=v*sc s)∨
 ∃b c n u,d=.pointer (some ⟨b,0,none⟩)∧bl=b::sb u∧IA w b (some c) n u∧DB n c∧V=dV n c
theorem QOk.mod {S:List Nat} {w w':World} {v s:Int} {d:Value} {V:Int} {bl:List Nat} (h:QOk w v s d V bl) (m:Mod S w w') (hS:∀k,k∈bl→k∉S):QOk w' v s d V bl:=by
 rcases h with h|⟨b,c,n,u,h1,h2,h3,h4,h5⟩
 ·exact .inl h
 ·subst h2
  exact .inr ⟨b,c,n,u,h1,rfl,h3.mod m (hS b (by simp)) (fun k hk=>hS k (by simp[hk])),h4,h5⟩
theorem QOk.lt {w:World} {v s:Int} {d:Value} {V:Int} {bl:List Nat} (h:QOk w v s d V bl):∀k,k∈bl→19≤k∧k<w.heap.size:=by
 rcases h with ⟨-,rfl,-⟩|⟨b,c,n,u,h1,rfl,h3,h4,h5⟩
 ·simp
 ·intro k hk
  rcases List.mem_cons.1 hk with rfl|hk
  ·exact⟨h3.lo,h3.lt⟩
  ·exact⟨h3.vlo k hk,h3.nv.zs.lt k hk⟩
structure Qy (w:World) (bq:Nat) (V:Int) (f:Value) (bl:List Nat):Prop where
 q:∃v s d st,Hd w bq 70 (qc v s d st f)∧QOk w v s d V bl
 lo:19≤bq
theorem Qy.mod {S:List Nat} {w w':World} {bq:Nat} {V:Int} {f:Value} {bl:List Nat} (h:Qy w bq V f bl) (m:Mod S w w') (h1:bq∉S) (hS:∀k,k∈bl→k∉S):Qy w' bq V f bl:=by
 obtain⟨v,s,d,st,h2,h3⟩:=h.q
 exact⟨⟨v,s,d,st,h2.mod m h1,h3.mod m hS⟩,h.lo⟩
theorem sgnI_mul {v:Int} {p:Nat} (hp:0<p):sgnI (v*p)=sgnI v:=by
 have hp':(0:Int)<p:=by omega
 rcases Int.lt_trichotomy v 0 with h|h|h
 ·rw[sgnI_neg h,sgnI_neg (Int.mul_neg_of_neg_of_pos h hp')]
 ·rw[h];simp
 ·rw[sgnI_pos h,sgnI_pos (Int.mul_pos h hp')]
theorem sgnI_eq0 (v:Int):(sgnI v==0)=decide (v=0):=by
 rcases Int.lt_trichotomy v 0 with h|h|h
 ·rw[sgnI_neg h];simp;omega
 ·rw[h];rfl
 ·rw[sgnI_pos h];simp;omega
theorem dptr_nil (b:Nat) (w:World):(binOp .neq 65 (.pointer (some ⟨b,0,none⟩)) (.pointer none)).run Tryz.prog w=.ok (.bool true) w:=by kernel_rfl
theorem dptr_nil' (b:Nat) (w:World):(binOp .eql 65 (.pointer (some ⟨b,0,none⟩)) (.pointer none)).run Tryz.prog w=.ok (.bool false) w:=by kernel_rfl
theorem q_isZero (bq:Nat) (V:Int) (f:Value) (bl:List Nat) (w:World) (h:Qy w bq V f bl):Calls Tryz.prog 48 #[.pointer (some ⟨bq,0,none⟩)] w fun e w'=>e=.returned (.bool (decide (V=0)))∧w=w':=by
 obtain⟨v,s,d,st,hd,hq⟩:=h.q
 have c0:=hd.cell (i:=0) (v:=.int .i64 v) rfl
 have c2:=hd.cell (i:=2) (v:=d) rfl
 rcases hq with ⟨rfl,-,-,-,-,hV⟩|⟨b,c,n,u,rfl,-,ia,-,hV⟩
 ·have HV:=Lh (show (v==0)=decide (V=0) by rw[←sgnI_eq0 V,hV,sgnI_mul (sc_pos s),sgnI_eq0 v];by_cases hh:v=0<;>simp[hh])
  clear h hd hV
  go_enter Tryz.func48,Tryz.ntmps48
  go_wp2_with fail
  go_ret
  exact⟨by rw[←HV.out];rfl,rfl⟩
 ·have HV:=Lh (show (sgnI n==0)=decide (V=0) by rw[sgnI_eq0 n,←sgnI_eq0 n,←sgnI_eq0 V,hV];unfold dV;rw[sgnI_mul (sc_pos _)])
  have DS:=Lh (dec_sign b (some c) n u w ia)
  have p1:=dptr_nil b
  clear h hd hV ia
  go_enter Tryz.func48,Tryz.ntmps48
  go_wp2_with fail
  refine DS.out.mono ?_
  rintro e w1 ⟨rfl,rfl⟩
  go_wp2_with fail
  go_ret
  exact⟨by rw[←HV.out];rfl,rfl⟩
theorem q_sign (bq:Nat) (V:Int) (f:Value) (bl:List Nat) (w:World) (h:Qy w bq V f bl):Calls Tryz.prog 47 #[.pointer (some ⟨bq,0,none⟩)] w fun e w'=>e=.returned (.int .i64 (sgnI V))∧Mod [] w w':=by
 obtain⟨v,s,d,st,hd,hq⟩:=h.q
 have c0:=hd.cell (i:=0) (v:=.int .i64 v) rfl
 have c1:=hd.cell (i:=1) (v:=.int .i32 s) rfl
 have c2:=hd.cell (i:=2) (v:=d) rfl
 rcases hq with ⟨rfl,-,-,-,-,hV⟩|⟨b,c,n,u,rfl,-,ia,-,hV⟩
 ·have HV:=Lh (show sgnI V=sgnI v by rw[hV,sgnI_mul (sc_pos s)])
  have AS:=Lh (amtSign v s w)
  clear h hd hV
  unfold amt at AS
  go_enter Tryz.func47,Tryz.ntmps47
  go_wp2_with fail
  refine AS.out.mono ?_
  rintro e w1 ⟨rfl,m⟩
  have HM:=Lh m
  clear m
  go_wp2_with fail
  go_ret
  exact⟨by rw[HV.out];rfl,HM.out⟩
 ·have HV:=Lh (show sgnI V=sgnI n by rw[hV];unfold dV;rw[sgnI_mul (sc_pos _)])
  have DS:=Lh (dec_sign b (some c) n u w ia)
  have p1:=dptr_nil b
  clear h hd hV ia
  go_enter Tryz.func47,Tryz.ntmps47
  go_wp2_with fail
  refine DS.out.mono ?_
  rintro e w1 ⟨rfl,rfl⟩
  go_wp2_with fail
  go_ret
  exact⟨by rw[HV.out];rfl,Mod.refl _ _⟩
structure QDec (w:World) (bq:Nat) (V:Int) (f:Value) (bl:List Nat) (b:Nat) (c n:Int) (u:Value) (w':World):Prop where
 hd:∃v s st,Hd w' bq 70 (qc v s (.pointer (some ⟨b,0,none⟩)) st f)
 ia:IA w' b (some c) n u
 db:DB n c
 v:V=dV n c
 mod:Mod [bq] w w'
 own:∀k,k∈b::sb u→k∈bl∨w.heap.size≤k
theorem i64_B6 {v:Int} (hv:i64 v):v.natAbs<B^12:=by
 unfold i64 at hv
 have h:(9223372036854775808:Nat)<B^12:=by rw[B_eq];decide+kernel
 omega
def AsDecRet (w:World) (bq:Nat) (V:Int) (f:Value) (bl:List Nat) (e:Ending) (w':World):Prop:=∃b c n u,e=.returned (.pointer (some ⟨b,0,none⟩))∧QDec w bq V f bl b c n u w'
def ToDecRet (w:World) (bq:Nat) (V:Int) (f:Value) (bl:List Nat) (e:Ending) (w':World):Prop:=∃b c n u,e=.returned (.pointer (some ⟨bq,0,none⟩))∧QDec w bq V f bl b c n u w'
theorem QDec.lay {w w1:World} {bq:Nat} {v s V:Int} {st f:Value} {bl:List Nat} {b:Nat} {u:Value} (hd:Hd w bq 70 (qc v s (.pointer none) st f)) (hv:i64 v) (h1:-100≤s) (h2:s≤100) (hV:V=v*sc s) (hr:NewRes w (some (-s)) v b u w1):
 QDec w bq V f bl b (-s) v u (((w1.setCell ⟨bq,2,none⟩ (.pointer (some ⟨b,0,none⟩))).setCell ⟨bq,0,none⟩ (.int .i64 0)).setCell ⟨bq,1,none⟩ (.int .i32 0)):=by
 have hd1:=hd.mod hr.mod (by simp)
 have hlt:=hd.lt
 have m:Mod [bq] w1 (((w1.setCell ⟨bq,2,none⟩ (.pointer (some ⟨b,0,none⟩))).setCell ⟨bq,0,none⟩ (.int .i64 0)).setCell ⟨bq,1,none⟩ (.int .i32 0)):=
  (((Mod.refl [bq] w1).setCell _ (.inl (by simp))).setCell _ (.inl (by simp))).setCell _ (.inl (by simp))
 refine⟨⟨0,0,st,((hd1.set 2 (.pointer (some ⟨b,0,none⟩))).set 0 (.int .i64 0)).set 1 (.int .i32 0)⟩,hr.ia.mod m (by have:=hr.own.1;simp;omega) (fun k hk=>by have:=hr.own.2 k hk;simp;omega),⟨i64_B6 hv,by omega,by omega⟩,?_,(hr.mod.mono (by simp)).trans m,fun k hk=>.inr ?_⟩
 ·rw[hV];unfold dV;rw[Int.neg_neg]
 ·rcases List.mem_cons.1 hk with rfl|hk
  ·exact hr.own.1
  ·exact hr.own.2 k hk
theorem q_asDec (bq:Nat) (V:Int) (f:Value) (bl:List Nat) (w:World) (he:Env w) (h:Qy w bq V f bl):Calls Tryz.prog 89 #[.pointer (some ⟨bq,0,none⟩)] w (AsDecRet w bq V f bl):=by
 obtain⟨v,s,d,st,hd,hq⟩:=h.q
 have c0:=hd.cell (i:=0) (v:=.int .i64 v) rfl
 have c1:=hd.cell (i:=1) (v:=.int .i32 s) rfl
 have c2:=hd.cell (i:=2) (v:=d) rfl
 rcases hq with ⟨rfl,-,hv,h1,h2,hV⟩|⟨b,c,n,u,rfl,hbl,ia,db,hV⟩
 ·have AD:=Lh (amtAsDec v s w he.big hv (by omega) (by omega))
  have HL:=Lh (fun b u w1 (hr:NewRes w (some (-s)) v b u w1)=>QDec.lay (bl:=bl) hd hv h1 h2 hV hr)
  have HD:=Lh hd
  clear h hd hv h1 h2 hV he
  unfold amt at AD
  go_enter Tryz.func89,Tryz.ntmps89
  go_wp2_with fail
  refine AD.out.mono ?_
  rintro e w1 ⟨b,u,rfl,hr⟩
  have hd1:=HD.out.mod hr.mod (by simp)
  have e0:=hd1.cell (i:=0) (v:=.int .i64 v) rfl
  have e2:=hd1.cell (i:=2) (v:=.pointer none) rfl
  have fr:=hd1.free
  have hd2:=hd1.set 2 (.pointer (some ⟨b,0,none⟩))
  have g0:(w1.setCell ⟨bq,2,none⟩ (.pointer (some ⟨b,0,none⟩))).cell? ⟨bq,0,none⟩=some (.int .i64 v):=hd2.cell rfl
  have g1:(w1.setCell ⟨bq,2,none⟩ (.pointer (some ⟨b,0,none⟩))).cell? ⟨bq,1,none⟩=some (.int .i32 s):=hd2.cell rfl
  have hd3:=hd2.set 0 (.int .i64 0)
  have hd4:=hd3.set 1 (.int .i32 0)
  have k1:((w1.setCell ⟨bq,2,none⟩ (.pointer (some ⟨b,0,none⟩))).setCell ⟨bq,0,none⟩ (.int .i64 0)).cell? ⟨bq,1,none⟩=some (.int .i32 s):=hd3.cell rfl
  have k2:(((w1.setCell ⟨bq,2,none⟩ (.pointer (some ⟨b,0,none⟩))).setCell ⟨bq,0,none⟩ (.int .i64 0)).setCell ⟨bq,1,none⟩ (.int .i32 0)).cell? ⟨bq,2,none⟩=some (.pointer (some ⟨b,0,none⟩)):=hd4.cell rfl
  have g2:=hd2.free
  have g3:=hd3.free
  have HF:=Lh (HL.out b u w1 hr)
  clear hr hd1 hd2 hd3 hd4
  go_wp2_with fail
  go_ret
  exact⟨b,_,_,u,rfl,HF.out⟩
 ·have p1:=dptr_nil b
  have HF:=Lh (show QDec w bq V f bl b c n u w from ⟨⟨v,s,st,hd⟩,ia,db,hV,Mod.refl _ _,fun k hk=>.inl (by rw[hbl];exact hk)⟩)
  clear h hd hbl ia db hV he
  go_enter Tryz.func89,Tryz.ntmps89
  go_wp2_with fail
  go_ret
  exact⟨b,c,n,u,rfl,HF.out⟩
theorem q_toDec (bq:Nat) (V:Int) (f:Value) (bl:List Nat) (w:World) (he:Env w) (h:Qy w bq V f bl):Calls Tryz.prog 92 #[.pointer (some ⟨bq,0,none⟩)] w (ToDecRet w bq V f bl):=by
 obtain⟨v,s,d,st,hd,hq⟩:=h.q
 have c0:=hd.cell (i:=0) (v:=.int .i64 v) rfl
 have c1:=hd.cell (i:=1) (v:=.int .i32 s) rfl
 have c2:=hd.cell (i:=2) (v:=d) rfl
 rcases hq with ⟨rfl,-,hv,h1,h2,hV⟩|⟨b,c,n,u,rfl,hbl,ia,db,hV⟩
 ·have AD:=Lh (amtAsDec v s w he.big hv (by omega) (by omega))
  have HL:=Lh (fun b u w1 (hr:NewRes w (some (-s)) v b u w1)=>QDec.lay (bl:=bl) hd hv h1 h2 hV hr)
  have HD:=Lh hd
  clear h hd hv h1 h2 hV he
  unfold amt at AD
  go_enter Tryz.func92,Tryz.ntmps92
  go_wp2_with fail
  refine AD.out.mono ?_
  rintro e w1 ⟨b,u,rfl,hr⟩
  have hd1:=HD.out.mod hr.mod (by simp)
  have e0:=hd1.cell (i:=0) (v:=.int .i64 v) rfl
  have e2:=hd1.cell (i:=2) (v:=.pointer none) rfl
  have fr:=hd1.free
  have hd2:=hd1.set 2 (.pointer (some ⟨b,0,none⟩))
  have g0:(w1.setCell ⟨bq,2,none⟩ (.pointer (some ⟨b,0,none⟩))).cell? ⟨bq,0,none⟩=some (.int .i64 v):=hd2.cell rfl
  have g1:(w1.setCell ⟨bq,2,none⟩ (.pointer (some ⟨b,0,none⟩))).cell? ⟨bq,1,none⟩=some (.int .i32 s):=hd2.cell rfl
  have hd3:=hd2.set 0 (.int .i64 0)
  have k1:((w1.setCell ⟨bq,2,none⟩ (.pointer (some ⟨b,0,none⟩))).setCell ⟨bq,0,none⟩ (.int .i64 0)).cell? ⟨bq,1,none⟩=some (.int .i32 s):=hd3.cell rfl
  have g2:=hd2.free
  have g3:=hd3.free
  have HF:=Lh (HL.out b u w1 hr)
  clear hr hd1 hd2 hd3
  go_wp2_with fail
  go_ret
  exact⟨b,_,_,u,rfl,HF.out⟩
 ·have p1:=dptr_nil' b
  have HF:=Lh (show QDec w bq V f bl b c n u w from ⟨⟨v,s,st,hd⟩,ia,db,hV,Mod.refl _ _,fun k hk=>.inl (by rw[hbl];exact hk)⟩)
  clear h hd hbl ia db hV he
  go_enter Tryz.func92,Tryz.ntmps92
  go_wp2_with fail
  go_ret
  exact⟨b,c,n,u,rfl,HF.out⟩
end Go.Proofs.YtcpjclakdpjjfaaGreatDoor
namespace Go.Proofs.YtcpjclakdpjjfaaGreatDoor
open Go.RowKit Wd
theorem map_eq158 (r:Nat) (w:World):(binOp .eql 158 (.map (some r)) (.map none)).run Tryz.prog w=.ok (.bool false) w:=by kernel_rfl
theorem map_eq159 (r:Nat) (w:World):(binOp .eql 159 (.map (some r)) (.map none)).run Tryz.prog w=.ok (.bool false) w:=by kernel_rfl
theorem map_eq160 (r:Nat) (w:World):(binOp .eql 160 (.map (some r)) (.map none)).run Tryz.prog w=.ok (.bool false) w:=by kernel_rfl
theorem map_nil158 (w:World):(binOp .eql 158 (.map none) (.map none)).run Tryz.prog w=.ok (.bool true) w:=by kernel_rfl
theorem map_nil159 (w:World):(binOp .eql 159 (.map none) (.map none)).run Tryz.prog w=.ok (.bool true) w:=by kernel_rfl
theorem map_nil160 (w:World):(binOp .eql 160 (.map none) (.map none)).run Tryz.prog w=.ok (.bool true) w:=by kernel_rfl
theorem Hd.ne_map {w:World} {b r:Nat} {t kt:TypeId} {cs:Array Value} {f:Value→Option Value} (h:Hd w b t cs) (m:MB w kt r f):b≠r:=by
 rintro rfl
 obtain⟨es,c,e⟩:=m.isMap
 have:=h.symm.trans e
 cases this
def pr (p:Int×Int):Value:=.agg #[.int .i32 p.1,.int .i32 p.2]
theorem add_more (b o:Nat) (s:ByteArray) (x y:Int) (kx:∃l,keyOf Tryz.prog 167 (.agg #[.int .i32 x,.int .i32 y])=some l) (hs:s.size≤maxLen) (r1 r2 r3:Nat) (f1 f2 f3:Value→Option Value) (w:World) (cs:Array Value) (hd:Hd w b 164 cs) (h1:cs[o]?=some (.map (some r1))) (h2:cs[o+1]?=some (.map (some r2))) (h3:cs[o+2]?=some (.map (some r3))) (m1:MB w 111 r1 f1) (m2:MB w 167 r2 f2) (m3:MB w 167 r3 f3)
 (d1:r2≠r1) (d2:r3≠r1) (d3:r3≠r2):
 Calls Tryz.prog 101 #[.pointer (some ⟨b,o,none⟩),.string s,.agg #[.int .i32 x,.int .i32 y]] w fun e w'=>e=.returned (.tuple #[])∧Mod [r1,r2,r3] w w'∧MB w' 111 r1 (upd f1 (.string s) (.agg #[.int .i32 x,.int .i32 y]))∧(∃f,MB w' 167 r2 f)∧∃V,MB w' 167 r3 (upd f3 (.agg #[.int .i32 x,.int .i32 y]) V)∧Rb w' w.heap.size V s.data.toList:=by
 obtain⟨kl,hkl⟩:=kx
 obtain⟨ks,hks⟩:=key_text hs
 have hn:=Hd.new w 167 #[.int .i32 x,.int .i32 y]
 have a0:Mod [] w (w.alloc (.cells #[.int .i32 x,.int .i32 y] 167)):=(Mod.refl [] w).alloc _
 have hd':=hd.mod a0 (by simp)
 have hlt:=hd.lt
 have H:=Lh (Aj hn (Aj a0 (Aj hd' (Aj hlt (Aj m1 (Aj m2 (Aj m3 (Aj d1 (Aj d2 (Aj d3 (Aj hkl (Aj hks hs))))))))))))
 clear hn a0 hd' hd hlt m1 m2 m3 d1 d2 d3 hkl hks hs
 go_enter Tryz.func101,Tryz.ntmps101
 go_upto_region 1 with fail
 obtain⟨hn,a0,hd',hlt,m1,m2,m3,d1,d2,d3,hkl,hks,hs⟩:=H.out
 clear H
 have n0:=hn.cell (i:=0) (v:=.int .i32 x) rfl
 have n1:=hn.cell (i:=1) (v:=.int .i32 y) rfl
 have hbp:b≠w.heap.size:=by omega
 generalize hW:w.heap.size=bp at*
 generalize w.alloc (.cells #[.int .i32 x,.int .i32 y] 167)=W at*
 have c1:=hd'.cell h1
 have c2:=hd'.cell h2
 have c3:=hd'.cell h3
 have e1:=map_eq158 r1
 have e2:=map_eq159 r2
 have e3:=map_eq160 r3
 replace m1:=m1.mod a0 (by simp)
 replace m2:=m2.mod a0 (by simp)
 replace m3:=m3.mod a0 (by simp)
 obtain⟨u1,u2,u3⟩:=(m1.mod ((Mod.refl [] W).drewN 1) (by simp)).put Tryz.underlying158 kl111 (.agg #[.int .i32 x,.int .i32 y]) hks
 have H:=Lh (Aj hn (Aj a0 (Aj hd' (Aj hlt (Aj m1 (Aj m2 (Aj m3 (Aj d1 (Aj d2 (Aj d3 (Aj hkl (Aj hks (Aj hs (Aj u2 (Aj u3 hW)))))))))))))))
 clear hn a0 hd' hlt m1 m2 m3 d1 d2 d3 hkl hks hs u2 u3 hW
 go_upto_region 7 with fail
 go_still_tail 6,(by kernel_rfl)
 change wpList _ _ _ _ _ (W.drewN 1)
 go_wp2_with fail
 obtain⟨hn,a0,hd',hlt,m1,m2,m3,d1,d2,d3,hkl,hks,hs,u2,u3,hW⟩:=H.out
 clear u1 n0 n1 c1 c2 c3 e1 e2 e3 H
 replace u3:=((Mod.refl [r1] W).drewN 1).trans u3
 have q1:b∉[r1]:=by simpa using hd'.ne_map m1
 have q2:bp∉[r1]:=by simpa using hn.ne_map m1
 have q3:b∉[r2]:=by simpa using hd'.ne_map m2
 have q4:bp∉[r2]:=by simpa using hn.ne_map m2
 generalize mupw 158 r1 (.string s) (.agg #[.int .i32 x,.int .i32 y]) (W.drewN 1)=W1 at*
 replace hn:=hn.mod u3 q2
 replace hd':=hd'.mod u3 q1
 replace m2:=m2.mod u3 (by simpa using d1)
 replace m3:=m3.mod u3 (by simpa using d2)
 have n0:=hn.cell (i:=0) (v:=.int .i32 x) rfl
 have n1:=hn.cell (i:=1) (v:=.int .i32 y) rfl
 have c2:=hd'.cell h2
 obtain⟨v1,v2,v3⟩:=(m2.mod ((Mod.refl [] W1).drewN 1) (by simp)).put Tryz.underlying159 kl167 (.string s) hkl
 have H:=Lh (Aj hn (Aj a0 (Aj hd' (Aj hlt (Aj m2 (Aj m3 (Aj d1 (Aj d2 (Aj d3 (Aj hkl (Aj hs (Aj u2 (Aj u3 (Aj v2 (Aj v3 (Aj hW (Aj q3 q4)))))))))))))))))
 clear hn a0 hd' hlt m1 m2 m3 d1 d2 d3 hkl hks hs u2 u3 v2 v3 q1 q2 q3 q4 hW
 go_still_tail 6,(by kernel_rfl)
 change wpList _ _ _ _ _ (W1.drewN 1)
 go_wp2_with fail
 obtain⟨hn,a0,hd',hlt,m2,m3,d1,d2,d3,hkl,hs,u2,u3,v2,v3,hW,q3,q4⟩:=H.out
 clear v1 n0 n1 c2 H
 replace v3:=((Mod.refl [r2] W1).drewN 1).trans v3
 generalize mupw 159 r2 (.agg #[.int .i32 x,.int .i32 y]) (.string s) (W1.drewN 1)=W2 at*
 have q1:r1∉[r2]:=by simpa using Ne.symm d1
 replace hn:=hn.mod v3 q4
 replace hd':=hd'.mod v3 q3
 replace u2:=u2.mod v3 q1
 replace m3:=m3.mod v3 (by simpa using d3)
 have c3:=hd'.cell h3
 have n0:=hn.cell (i:=0) (v:=.int .i32 x) rfl
 have n1:=hn.cell (i:=1) (v:=.int .i32 y) rfl
 have bc:=bytes_conv 111 Tryz.underlying111 s
 have mB:Mod [] W2 (Lib.bytesWorld W2.drew 5 s):=((Mod.refl [] W2).drew).trans (bytes_mod s _)
 have rB:=bytes_rb s (grownCap W2.drew s.size 0 5) W2.drew
 have hnB:=hn.mod mB (by simp)
 have hdB:=hd'.mod mB (by simp)
 have k0:=hnB.cell (i:=0) (v:=.int .i32 x) rfl
 have k1:=hnB.cell (i:=1) (v:=.int .i32 y) rfl
 have k2:=hdB.cell h3
 obtain⟨z1,z2,z3⟩:=(m3.mod mB (by simp)).put Tryz.underlying160 kl167 (.slice (some ⟨W2.heap.size,0,none⟩) s.size (grownCap W2.drew s.size 0 5)) hkl
 have H:=Lh (Aj hn (Aj a0 (Aj hd' (Aj hlt (Aj m3 (Aj d1 (Aj d2 (Aj d3 (Aj hkl (Aj hs (Aj u2 (Aj u3 (Aj v2 (Aj v3 (Aj hW (Aj mB (Aj rB (Aj z2 z3))))))))))))))))))
 clear hn a0 hd' hlt m3 d1 d2 d3 hkl hs u2 u3 v2 v3 q1 q3 q4 hW mB rB z2 z3 hnB hdB
 clear h1 h2 h3
 go_region_law (first|fail)
 all_goals
  go_wp2_with fail
  refine bodyPost_end (results_none rfl _ _ _) rfl ?_
  obtain⟨hn,a0,hd',hlt,m3,d1,d2,d3,hkl,hs,u2,u3,v2,v3,hW,mB,rB,z2,z3⟩:=H.out
  have hm:MB (Lib.bytesWorld W2.drew 5 s) 167 r3 f3:=m3.mod mB (by simp)
  have n1:r1∉[r3]:=by simpa using Ne.symm d2
  have n2:r2∉[r3]:=by simpa using Ne.symm d3
  have M0:Mod [r1,r2,r3] w W:=a0.mono (by simp)
  have M1:=M0.trans (u3.mono (fun x hx=>.inl (by simp at hx;simp[hx])))
  have M2:=M1.trans (v3.mono (fun x hx=>.inl (by simp at hx;simp[hx])))
  have M3:=M2.trans (mB.mono (by simp))
  have M4:=M3.trans (z3.mono (fun x hx=>.inl (by simp at hx;simp[hx])))
  refine⟨rfl,M4,(u2.mod mB (by simp)).mod z3 n1,⟨_,(v2.mod mB (by simp)).mod z3 n2⟩,_,z2,?_⟩
  refine(rB.mod z3 (fun k hk=>.inr ?_)).base M2.size
  rw[List.mem_singleton.1 hk]
  exact hm.isMap
end Go.Proofs.YtcpjclakdpjjfaaGreatDoor
