/- Amounts of 64 bits: Sign, Cmp (resource/amount. -/
import Derived.Test.YtcpjclakdpjjfaaGreatDoorC22
import Derived.Test.YtcpjclakdpjjfaaGreatDoorC17
import Derived.Test.YtcpjclakdpjjfaaGreatDoorC18
set_option maxHeartbeats 4000000
set_option maxRecDepth 10000
namespace Go.Proofs.YtcpjclakdpjjfaaGreatDoor
open Go.RowKit Wd Dg
theorem amtSign (v s:Int) (w:World):Calls Tryz.prog 90 #[amt v s] w fun e w'=>e=.returned (.int .i64 (sgnI v))∧Mod [] w w':=by
 have ma:Mod [] w (w.alloc (.cells #[.int .i64 v,.int .i32 s] 64)):=(Mod.refl [] w).alloc _
 have HM:=Lh ma
 clear ma
 unfold amt
 rcases Int.lt_trichotomy v 0 with h|h|h
 ·have t1:(v==0)=false:=by simp;omega
  have t2:decide (0<v)=false:=by simp;omega
  have HS:=Lh (show sgnI v=-1 by rw[sgnI_neg h])
  clear h
  go_enter Tryz.func90,Tryz.ntmps90
  go_wp2_with fail
  go_ret
  exact⟨by rw[HS.out];rfl,HM.out⟩
 ·subst h
  go_enter Tryz.func90,Tryz.ntmps90
  go_wp2_with fail
  go_ret
  exact⟨by rw[sgnI_zero];rfl,HM.out⟩
 ·have t1:(v==0)=false:=by simp;omega
  have t2:decide (0<v)=true:=by simp;omega
  have HS:=Lh (show sgnI v=1 by rw[sgnI_pos h])
  clear h
  go_enter Tryz.func90,Tryz.ntmps90
  go_wp2_with fail
  go_ret
  exact⟨by rw[HS.out];rfl,HM.out⟩
theorem cmpZI_lt {a b:Int} (h:a<b):cmpZI a b=-1:=by unfold cmpZI;rw[if_pos h]
theorem cmpZI_gt {a b:Int} (h:b<a):cmpZI a b=1:=by unfold cmpZI;rw[if_neg (by omega),if_pos h]
theorem cmpZI_eq {a b:Int} (h:a=b):cmpZI a b=0:=by unfold cmpZI;rw[if_neg (by omega),if_neg (by omega)]
theorem cmpZI_neg (a b:Int):cmpZI b a=-cmpZI a b:=by
 rcases Int.lt_trichotomy a b with h|h|h
 ·rw[cmpZI_lt h,cmpZI_gt h];rfl
 ·rw[cmpZI_eq h,cmpZI_eq h.symm];rfl
 ·rw[cmpZI_gt h,cmpZI_lt h]
theorem cmpZI_mulN {a b:Int} {k:Nat} (hk:0<k):cmpZI (a*k) (b*k)=cmpZI a b:=by
 have hk':(0:Int)<k:=by omega
 rcases Int.lt_trichotomy a b with h|h|h
 ·rw[cmpZI_lt h,cmpZI_lt (Int.mul_lt_mul_of_pos_right h hk')]
 ·rw[cmpZI_eq h,cmpZI_eq (by rw[h])]
 ·rw[cmpZI_gt h,cmpZI_gt (Int.mul_lt_mul_of_pos_right h hk')]
theorem cmp_div {v y:Int} {p:Nat} (hp:0<p):cmpZI (v*p) y=if y.tdiv p=v then -(sgnI (y.tmod p)) else if v<y.tdiv p then -1 else 1:=by
 have h1:=Int.mul_tdiv_add_tmod y p
 have h2:(y.tmod p).natAbs<p:=by rw[Int.natAbs_tmod,Int.natAbs_natCast];exact Nat.mod_lt _ hp
 generalize y.tdiv p=q at*
 generalize y.tmod p=r at*
 have e:y=q*p+r:=by rw[Int.mul_comm];exact h1.symm
 by_cases hq:q=v
 ·rw[if_pos hq,e,hq]
  rcases Int.lt_trichotomy r 0 with h|h|h
  ·rw[sgnI_neg h,cmpZI_gt (by omega)];rfl
  ·rw[h,sgnI_zero,cmpZI_eq (by omega)];rfl
  ·rw[sgnI_pos h,cmpZI_lt (by omega)]
 ·rw[if_neg hq]
  by_cases hlt:v<q
  ·rw[if_pos hlt]
   apply cmpZI_lt
   have h3:(v+1)*p≤q*p:=Int.mul_le_mul_of_nonneg_right (by omega) (by omega)
   rw[Int.add_mul,Int.one_mul] at h3
   omega
  ·rw[if_neg hlt]
   apply cmpZI_gt
   have h3:(q+1)*p≤v*p:=Int.mul_le_mul_of_nonneg_right (by omega) (by omega)
   rw[Int.add_mul,Int.one_mul] at h3
   omega
theorem cmp_sc {v y s t:Int} {n:Nat} (hs:s=t+n) (ht:-400≤t):cmpZI (v*sc s) (y*sc t)=cmpZI (v*(10^n:Nat)) y:=by
 have e:v*((sc t*10^n:Nat):Int)=v*(10^n:Nat)*sc t:=by rw[Int.natCast_mul,Int.mul_assoc,Int.mul_comm (sc t:Int)]
 rw[hs,sc_add ht,e,cmpZI_mulN (sc_pos t)]
theorem i64_pow {v:Int} (hv:i64 v) {k:Nat} (hk:k≤350):(v*(10^k:Nat)).natAbs<Big:=by
 rw[Int.natAbs_mul,Int.natAbs_natCast]
 have h1:v.natAbs<B:=by unfold i64 at hv;rw[B_eq];omega
 have h2:10^k≤B^20:=Nat.le_trans (Nat.pow_le_pow_right (by decide) hk) (by rw[B_eq];decide+kernel)
 have h3:v.natAbs*10^k<B*B^20:=Nat.lt_of_lt_of_le (Nat.mul_lt_mul_of_pos_right h1 (Nat.pow_pos (by decide))) (Nat.mul_le_mul_left _ h2)
 rw[Nat.mul_comm B,←Nat.pow_succ] at h3
 exact Nat.lt_trans h3 (by rw[Big_eq];exact Nat.pow_lt_pow_right B_one (by omega))
def CmRet (v s y t:Int) (w:World) (e:Ending) (w':World):Prop:=e=.returned (.int .i64 (cmpZI (v*sc s) (y*sc t)))∧Mod [] w w'
theorem amtCmp_same (v s y:Int) (w:World):Calls Tryz.prog 88 #[amt v s,amt y s] w (CmRet v s y s w):=by
 have ma:Mod [] w ((w.alloc (.cells #[.int .i64 v,.int .i32 s] 64)).alloc (.cells #[.int .i64 y,.int .i32 s] 64)):=((Mod.refl [] w).alloc _).alloc _
 have he:cmpZI (v*sc s) (y*sc s)=cmpZI v y:=cmpZI_mulN (sc_pos s)
 have HM:=Lh (Aj ma he)
 clear ma he
 unfold amt
 rcases Int.lt_trichotomy v y with h|h|h
 ·have t1:(v==y)=false:=by simp;omega
  have t2:decide (v<y)=true:=by simp;omega
  have HS:=Lh (cmpZI_lt h)
  clear h
  go_enter Tryz.func88,Tryz.ntmps88
  go_wp2_with fail
  go_ret
  exact⟨by rw[HM.out.2,HS.out];rfl,HM.out.1⟩
 ·subst h
  go_enter Tryz.func88,Tryz.ntmps88
  go_wp2_with fail
  go_ret
  exact⟨by rw[HM.out.2,cmpZI_eq rfl];rfl,HM.out.1⟩
 ·have t1:(v==y)=false:=by simp;omega
  have t2:decide (v<y)=false:=by simp;omega
  have HS:=Lh (cmpZI_gt h)
  clear h
  go_enter Tryz.func88,Tryz.ntmps88
  go_wp2_with fail
  go_ret
  exact⟨by rw[HM.out.2,HS.out];rfl,HM.out.1⟩
theorem amtCmp_gt (v s y t:Int) (n:Nat) (hn:s=t+n) (hn0:0<n) (w:World) (he:Env2 w) (hv:i64 v) (hy:i64 y) (h1:-250≤s) (h2:s≤100) (h3:-250≤t) (h4:t≤100):Calls Tryz.prog 88 #[amt v s,amt y t] w (CmRet v s y t w):=by
 have ma:Mod [] w ((w.alloc (.cells #[.int .i64 v,.int .i32 s] 64)).alloc (.cells #[.int .i64 y,.int .i32 t] 64)):=((Mod.refl [] w).alloc _).alloc _
 have hA:=Hd.mod (Hd.new w 64 #[.int .i64 v,.int .i32 s]) ((Mod.refl [] _).alloc (.cells #[.int .i64 y,.int .i32 t] 64)) (by simp)
 have hB:=Hd.new (w.alloc (.cells #[.int .i64 v,.int .i32 s] 64)) 64 #[.int .i64 y,.int .i32 t]
 have hsz:(w.alloc (.cells #[.int .i64 v,.int .i32 s] 64)).heap.size=w.heap.size+1:=by simp
 rw[hsz] at hB
 have ts:(s==t)=false:=by simp;omega
 have tg:decide (t<s)=true:=by simp;omega
 have T:=Lh<| show IntKind.i32.wrap (s-t)=(n:Int) by rw[IntKind.wrap_i32];omega
 have T2:=Lh<| show wrap32 (s-t)=(n:Int) by unfold wrap32;omega
 have DV:=Lh (fun w=>divByScale_calls y n w hy (by omega))
 have HE:=Lh (Aj he (Aj hv (Aj hy (Aj hn (Aj (Aj h1 h2) (Aj h3 h4))))))
 have HM:=Lh (Aj ma (Aj hA hB))
 clear ma hA hB hn hn0 he hv hy h1 h2 h3 h4 hsz
 have tt2:=T2.out
 unfold amt
 go_enter Tryz.func88,Tryz.ntmps88
 go_wp2_with fail
 refine(DV.out _).mono ?_
 rintro e w1 ⟨⟨m,rfl⟩,hd⟩
 clear tt2
 rcases hd with ⟨h18,rfl⟩|⟨h18,rfl⟩
 ·have hcmp:=cmp_div (v:=v) (y:=y) (p:=10^n) (Nat.pow_pos (by decide))
  have hfin:cmpZI (v*sc s) (y*sc t)=cmpZI (v*(10^n:Nat)) y:=by
   have q:=HE.out.2.2.2.1
   have q1:=HE.out.2.2.2.2.1
   have q2:=HE.out.2.2.2.2.2
   exact cmp_sc q (by omega)
  rw[hcmp] at hfin
  generalize y.tdiv ((10^n:Nat):Int)=Q at*
  generalize y.tmod ((10^n:Nat):Int)=R at*
  have HF:=Lh hfin
  have M1:=Lh (HM.out.1.drewN m)
  clear hcmp hfin h18 HM HE DV T T2
  by_cases hq:Q=v
  ·have tq:(Q==v)=true:=by simpa using hq
   have HQ:=Lh hq
   clear hq
   rcases Int.lt_trichotomy R 0 with h|h|h
   ·have t1:(R==0)=false:=by simp;omega
    have t2:decide (0<R)=false:=by simp;omega
    have HS:=Lh (show cmpZI (v*sc s) (y*sc t)=1 by rw[HF.out];simp[HQ.out,sgnI_neg h])
    clear h
    go_wp2_with fail
    go_ret
    exact⟨by rw[HS.out];rfl,by first|exact M1.out|exact M1.out.setCell _ (.inr (by simp))⟩
   ·subst h
    have HS:=Lh (show cmpZI (v*sc s) (y*sc t)=0 by rw[HF.out];simp[HQ.out,sgnI_zero])
    go_wp2_with fail
    go_ret
    exact⟨by rw[HS.out];rfl,by first|exact M1.out|exact M1.out.setCell _ (.inr (by simp))⟩
   ·have t1:(R==0)=false:=by simp;omega
    have t2:decide (0<R)=true:=by simp;omega
    have HS:=Lh (show cmpZI (v*sc s) (y*sc t)=-1 by rw[HF.out];simp[HQ.out,sgnI_pos h])
    clear h
    go_wp2_with fail
    go_ret
    exact⟨by rw[HS.out];rfl,by first|exact M1.out|exact M1.out.setCell _ (.inr (by simp))⟩
  ·have tq:(Q==v)=false:=by simpa using hq
   have tq2:(v==Q)=false:=by simpa using fun h=>hq h.symm
   have HQ:=Lh hq
   rcases Int.lt_or_gt_of_ne hq with h|h
   ·have t3:decide (v<Q)=false:=by simp;omega
    have t4:decide (Q<v)=true:=by simp;omega
    have HS:=Lh (show cmpZI (v*sc s) (y*sc t)=1 by rw[HF.out];simp[hq,show ¬v<Q by omega])
    clear h hq
    go_wp2_with fail
    go_ret
    exact⟨by rw[HS.out];rfl,by first|exact M1.out|exact M1.out.setCell _ (.inr (by simp))⟩
   ·have t3:decide (v<Q)=true:=by simp;omega
    have t4:decide (Q<v)=false:=by simp;omega
    have HS:=Lh (show cmpZI (v*sc s) (y*sc t)=-1 by rw[HF.out];simp[hq,show v<Q by omega])
    clear h hq
    go_wp2_with fail
    go_ret
    exact⟨by rw[HS.out];rfl,by first|exact M1.out|exact M1.out.setCell _ (.inr (by simp))⟩
 ·have hA9:=Hd.mod HM.out.2.1 ((Mod.refl [] _).drewN m) (by simp)
  have hB9:=Hd.mod HM.out.2.2 ((Mod.refl [] _).drewN m) (by simp)
  have m9:=HM.out.1.drewN m
  clear HM T T2 DV h18
  generalize ((w.alloc (.cells #[.int .i64 v,.int .i32 s] 64)).alloc (.cells #[.int .i64 y,.int .i32 t] 64)).drewN m=W at*
  have c0:=hA9.cell (i:=0) (v:=.int .i64 v) rfl
  have c1:=hA9.cell (i:=1) (v:=.int .i32 s) rfl
  have d0:=hB9.cell (i:=0) (v:=.int .i64 y) rfl
  have d1:=hB9.cell (i:=1) (v:=.int .i32 t) rfl
  obtain⟨he,hv,hy,hn,⟨h1,h2⟩,h3,h4⟩:=HE.out
  have he9:=he.new m9
  have FA:=Lh (fun k=>(amtAsDec v s (W.drewN k) ((he9.drewN k).env.big) hv (by omega) (by omega)))
  have FB:=Lh (fun w2 k (mm:Mod [] W w2)=>(amtAsDec y t (w2.drewN k) (((he9.new mm).drewN k).env.big) hy (by omega) (by omega)))
  have FC:=Lh (fun w3 k b1 b2 u1 u2 (mm:Mod [] W w3) (i1:IA w3 b1 (some (-s)) v u1) (i2:IA w3 b2 (some (-t)) y u2) (hne:b1≠b2)=>(dec_cmp b1 b2 (-s) (-t) v y u1 u2 (w3.drewN k) (((he9.new mm).drewN k).env) (i1.drewN k) (i2.drewN k) hne (by omega) (by omega) (by omega) (by omega) (by omega) (by omega) (by have:=i64_pow hv (k:=0) (by omega);simpa using this) (by have:=i64_pow hy (k:=0) (by omega);simpa using this) (fun k hk=>i64_pow hv (by omega)) (fun k hk=>i64_pow hy (by omega))).mono (fun e w' (h:DCmpRet _ _ e w')=>(show CmRet v s y t w e w' from ⟨by have q:=h.1;unfold dV at q;rw[Int.neg_neg,Int.neg_neg] at q;exact q,(m9.trans (mm.drewN k)).trans h.2⟩)))
  have HB:=Lh (Aj hB9 m9)
  clear hA9 hB9 m9 he hv hy hn h1 h2 h3 h4 he9 HE
  go_wp2_with fail
  go_region_law (first
   |(go_simp;go_at_call_of 129 (Value.agg #[.int .i64 v,.int .i32 s]);refine(FA.out _).mono ?_;rintro e w2 ⟨b1,u1,rfl,hr1⟩;have HR1:=Lh (Aj hr1 (((Mod.refl [] W).drewN _).trans hr1.mod));have f0:=(HB.out.1.mod HR1.out.2 (by simp)).cell (i:=0) (v:=.int .i64 y) rfl;have f1:=(HB.out.1.mod HR1.out.2 (by simp)).cell (i:=1) (v:=.int .i32 t) rfl;clear hr1)
   |(go_simp;go_at_call_of 129 (Value.agg #[.int .i64 y,.int .i32 t]);(first|refine(FB.out w2 _ HR1.out.2).mono ?_|refine(show Calls _ 129 _ w2 _ from FB.out w2 0 HR1.out.2).mono ?_);rintro e w3 ⟨b2,u2,rfl,hr2⟩;have HR2:=Lh (Aj hr2 (Aj ((HR1.out.2.drewN _).trans hr2.mod) (Aj (hr2.apart (HR1.out.1.ia.drewN _)).2.2 (hr2.apart (HR1.out.1.ia.drewN _)).1)));clear hr2)
   |(go_simp;go_at_call 78;(first|refine(FC.out w3 _ b1 b2 u1 u2 HR2.out.2.1 HR2.out.2.2.1 HR2.out.1.ia HR2.out.2.2.2).mono ?_|refine(show Calls _ 78 _ w3 _ from FC.out w3 0 b1 b2 u1 u2 HR2.out.2.1 HR2.out.2.2.1 HR2.out.1.ia HR2.out.2.2.2).mono ?_);rintro e w4 hc;obtain⟨rfl,hc2⟩:=hc;have HC:=Lh hc2;clear hc2))
  all_goals
   go_wp2_with fail
   go_ret
   exact⟨rfl,HC.out⟩
theorem amtCmp_lt (v s y t:Int) (n:Nat) (hn:t=s+n) (hn0:0<n) (w:World) (he:Env2 w) (hv:i64 v) (hy:i64 y) (h1:-250≤s) (h2:s≤100) (h3:-250≤t) (h4:t≤100):Calls Tryz.prog 88 #[amt v s,amt y t] w (CmRet v s y t w):=by
 have ma:Mod [] w ((w.alloc (.cells #[.int .i64 v,.int .i32 s] 64)).alloc (.cells #[.int .i64 y,.int .i32 t] 64)):=((Mod.refl [] w).alloc _).alloc _
 have hA:=Hd.mod (Hd.new w 64 #[.int .i64 v,.int .i32 s]) ((Mod.refl [] _).alloc (.cells #[.int .i64 y,.int .i32 t] 64)) (by simp)
 have hB:=Hd.new (w.alloc (.cells #[.int .i64 v,.int .i32 s] 64)) 64 #[.int .i64 y,.int .i32 t]
 have hsz:(w.alloc (.cells #[.int .i64 v,.int .i32 s] 64)).heap.size=w.heap.size+1:=by simp
 rw[hsz] at hB
 have ts:(s==t)=false:=by simp;omega
 have tg:decide (t<s)=false:=by simp;omega
 have T:=Lh<| show IntKind.i32.wrap (t-s)=(n:Int) by rw[IntKind.wrap_i32];omega
 have T2:=Lh<| show wrap32 (t-s)=(n:Int) by unfold wrap32;omega
 have DV:=Lh (fun w=>divByScale_calls v n w hv (by omega))
 have HE:=Lh (Aj he (Aj hv (Aj hy (Aj hn (Aj (Aj h1 h2) (Aj h3 h4))))))
 have HM:=Lh (Aj ma (Aj hA hB))
 clear ma hA hB hn hn0 he hv hy h1 h2 h3 h4 hsz
 have tt2:=T2.out
 unfold amt
 go_enter Tryz.func88,Tryz.ntmps88
 go_wp2_with fail
 refine(DV.out _).mono ?_
 rintro e w1 ⟨⟨m,rfl⟩,hd⟩
 clear tt2
 rcases hd with ⟨h18,rfl⟩|⟨h18,rfl⟩
 ·have hcmp:=cmp_div (v:=y) (y:=v) (p:=10^n) (Nat.pow_pos (by decide))
  have hfin:cmpZI (v*sc s) (y*sc t)=-cmpZI (y*(10^n:Nat)) v:=by
   have q:=HE.out.2.2.2.1
   have q1:=HE.out.2.2.2.2.1
   have q2:=HE.out.2.2.2.2.2
   rw[cmpZI_neg,cmp_sc q (by omega)]
  rw[hcmp] at hfin
  generalize v.tdiv ((10^n:Nat):Int)=Q at*
  generalize v.tmod ((10^n:Nat):Int)=R at*
  have HF:=Lh hfin
  have M1:=Lh (HM.out.1.drewN m)
  clear hcmp hfin h18 HM HE DV T T2
  by_cases hq:Q=y
  ·have tq:(Q==y)=true:=by simpa using hq
   have HQ:=Lh hq
   clear hq
   rcases Int.lt_trichotomy R 0 with h|h|h
   ·have t1:(R==0)=false:=by simp;omega
    have t2:decide (0<R)=false:=by simp;omega
    have HS:=Lh (show cmpZI (v*sc s) (y*sc t)=-1 by rw[HF.out];simp[HQ.out,sgnI_neg h])
    clear h
    go_wp2_with fail
    go_ret
    exact⟨by rw[HS.out];rfl,by first|exact M1.out|exact M1.out.setCell _ (.inr (by simp))⟩
   ·subst h
    have HS:=Lh (show cmpZI (v*sc s) (y*sc t)=0 by rw[HF.out];simp[HQ.out,sgnI_zero])
    go_wp2_with fail
    go_ret
    exact⟨by rw[HS.out];rfl,by first|exact M1.out|exact M1.out.setCell _ (.inr (by simp))⟩
   ·have t1:(R==0)=false:=by simp;omega
    have t2:decide (0<R)=true:=by simp;omega
    have HS:=Lh (show cmpZI (v*sc s) (y*sc t)=1 by rw[HF.out];simp[HQ.out,sgnI_pos h])
    clear h
    go_wp2_with fail
    go_ret
    exact⟨by rw[HS.out];rfl,by first|exact M1.out|exact M1.out.setCell _ (.inr (by simp))⟩
  ·have tq:(Q==y)=false:=by simpa using hq
   have tq2:(y==Q)=false:=by simpa using fun h=>hq h.symm
   have HQ:=Lh hq
   rcases Int.lt_or_gt_of_ne hq with h|h
   ·have t3:decide (y<Q)=false:=by simp;omega
    have t4:decide (Q<y)=true:=by simp;omega
    have HS:=Lh (show cmpZI (v*sc s) (y*sc t)=-1 by rw[HF.out];simp[hq,show ¬y<Q by omega])
    clear h hq
    go_wp2_with fail
    go_ret
    exact⟨by rw[HS.out];rfl,by first|exact M1.out|exact M1.out.setCell _ (.inr (by simp))⟩
   ·have t3:decide (y<Q)=true:=by simp;omega
    have t4:decide (Q<y)=false:=by simp;omega
    have HS:=Lh (show cmpZI (v*sc s) (y*sc t)=1 by rw[HF.out];simp[hq,show y<Q by omega])
    clear h hq
    go_wp2_with fail
    go_ret
    exact⟨by rw[HS.out];rfl,by first|exact M1.out|exact M1.out.setCell _ (.inr (by simp))⟩
 ·have hA9:=Hd.mod HM.out.2.1 ((Mod.refl [] _).drewN m) (by simp)
  have hB9:=Hd.mod HM.out.2.2 ((Mod.refl [] _).drewN m) (by simp)
  have m9:=HM.out.1.drewN m
  clear HM T T2 DV h18
  generalize ((w.alloc (.cells #[.int .i64 v,.int .i32 s] 64)).alloc (.cells #[.int .i64 y,.int .i32 t] 64)).drewN m=W at*
  have c0:=hA9.cell (i:=0) (v:=.int .i64 v) rfl
  have c1:=hA9.cell (i:=1) (v:=.int .i32 s) rfl
  have d0:=hB9.cell (i:=0) (v:=.int .i64 y) rfl
  have d1:=hB9.cell (i:=1) (v:=.int .i32 t) rfl
  obtain⟨he,hv,hy,hn,⟨h1,h2⟩,h3,h4⟩:=HE.out
  have he9:=he.new m9
  have FA:=Lh (fun k=>(amtAsDec v s (W.drewN k) ((he9.drewN k).env.big) hv (by omega) (by omega)))
  have FB:=Lh (fun w2 k (mm:Mod [] W w2)=>(amtAsDec y t (w2.drewN k) (((he9.new mm).drewN k).env.big) hy (by omega) (by omega)))
  have FC:=Lh (fun w3 k b1 b2 u1 u2 (mm:Mod [] W w3) (i1:IA w3 b1 (some (-s)) v u1) (i2:IA w3 b2 (some (-t)) y u2) (hne:b1≠b2)=>(dec_cmp b1 b2 (-s) (-t) v y u1 u2 (w3.drewN k) (((he9.new mm).drewN k).env) (i1.drewN k) (i2.drewN k) hne (by omega) (by omega) (by omega) (by omega) (by omega) (by omega) (by have:=i64_pow hv (k:=0) (by omega);simpa using this) (by have:=i64_pow hy (k:=0) (by omega);simpa using this) (fun k hk=>i64_pow hv (by omega)) (fun k hk=>i64_pow hy (by omega))).mono (fun e w' (h:DCmpRet _ _ e w')=>(show CmRet v s y t w e w' from ⟨by have q:=h.1;unfold dV at q;rw[Int.neg_neg,Int.neg_neg] at q;exact q,(m9.trans (mm.drewN k)).trans h.2⟩)))
  have HB:=Lh (Aj hB9 m9)
  clear hA9 hB9 m9 he hv hy hn h1 h2 h3 h4 he9 HE
  go_wp2_with fail
  go_region_law (first
   |(go_simp;go_at_call_of 129 (Value.agg #[.int .i64 v,.int .i32 s]);refine(FA.out _).mono ?_;rintro e w2 ⟨b1,u1,rfl,hr1⟩;have HR1:=Lh (Aj hr1 (((Mod.refl [] W).drewN _).trans hr1.mod));have f0:=(HB.out.1.mod HR1.out.2 (by simp)).cell (i:=0) (v:=.int .i64 y) rfl;have f1:=(HB.out.1.mod HR1.out.2 (by simp)).cell (i:=1) (v:=.int .i32 t) rfl;clear hr1)
   |(go_simp;go_at_call_of 129 (Value.agg #[.int .i64 y,.int .i32 t]);(first|refine(FB.out w2 _ HR1.out.2).mono ?_|refine(show Calls _ 129 _ w2 _ from FB.out w2 0 HR1.out.2).mono ?_);rintro e w3 ⟨b2,u2,rfl,hr2⟩;have HR2:=Lh (Aj hr2 (Aj ((HR1.out.2.drewN _).trans hr2.mod) (Aj (hr2.apart (HR1.out.1.ia.drewN _)).2.2 (hr2.apart (HR1.out.1.ia.drewN _)).1)));clear hr2)
   |(go_simp;go_at_call 78;(first|refine(FC.out w3 _ b1 b2 u1 u2 HR2.out.2.1 HR2.out.2.2.1 HR2.out.1.ia HR2.out.2.2.2).mono ?_|refine(show Calls _ 78 _ w3 _ from FC.out w3 0 b1 b2 u1 u2 HR2.out.2.1 HR2.out.2.2.1 HR2.out.1.ia HR2.out.2.2.2).mono ?_);rintro e w4 hc;obtain⟨rfl,hc2⟩:=hc;have HC:=Lh hc2;clear hc2))
  all_goals
   go_wp2_with fail
   go_ret
   exact⟨rfl,HC.out⟩
theorem amtCmp_calls (v s y t:Int) (w:World) (he:Env2 w) (hv:i64 v) (hy:i64 y) (h1:-250≤s) (h2:s≤100) (h3:-250≤t) (h4:t≤100):Calls Tryz.prog 88 #[amt v s,amt y t] w (CmRet v s y t w):=by
 rcases Int.lt_trichotomy s t with h|h|h
 ·exact amtCmp_lt v s y t (t-s).toNat (by omega) (by omega) w he hv hy h1 h2 h3 h4
 ·subst h;exact amtCmp_same v s y w
 ·exact amtCmp_gt v s y t (s-t).toNat (by omega) (by omega) w he hv hy h1 h2 h3 h4
end Go.Proofs.YtcpjclakdpjjfaaGreatDoor
