/- Quantities: the canonical digits, at a scale (resource/quantity. -/
import Derived.Test.YtcpjclakdpjjfaaGreatDoorC26
import Derived.Test.YtcpjclakdpjjfaaGreatDoorRows
import Derived.ProofKit
import Derived.LaidMore
import Derived.LaidLaws
import Derived.Lay
import Derived.OpenShut
import Derived.Stop.Joined
import Derived.Lib.SmallJoins
import Derived.Lib.LaidTab
import Derived.Shelf.Strconv.AppendIntPublic10
set_option maxHeartbeats 3200000
set_option maxRecDepth 100000
namespace Go.Proofs.YtcpjclakdpjjfaaGreatDoor
open Go.RowKit Wd Dg
theorem upA_scale {n q p:Nat} (hp:0<p) (hq:0<q):upA (n*p) (q*p)=upA n q:=by
 by_cases h:n%q=0
 ·rw[upA_exact hq h,upA_exact (Nat.mul_pos hq hp) (by rw[Nat.mul_mod_mul_right,h,Nat.zero_mul]),Nat.mul_div_mul_right _ _ hp]
 ·rw[upA_over hq h,upA_over (Nat.mul_pos hq hp) (by rw[Nat.mul_mod_mul_right];exact fun h1=>(Nat.mul_eq_zero.1 h1).elim h (by omega)),Nat.mul_div_mul_right _ _ hp]
theorem up_scale {v:Int} {q p:Nat} (hp:0<p) (hq:0<q):up (v*p) (q*p)=up v q:=by
 have h:(v*(p:Int)).natAbs=v.natAbs*p:=by rw[Int.natAbs_mul,Int.natAbs_natCast]
 have hp':(0:Int)<p:=by omega
 unfold up
 rw[h,upA_scale hp hq]
 by_cases hv:v<0
 ·rw[if_pos hv,if_pos (Int.mul_neg_of_neg_of_pos hv hp')]
 ·rw[if_neg hv,if_neg (by have:=Int.mul_nonneg (show 0≤v by omega) (Int.le_of_lt hp');omega)]
def rup10 (V c:Int):Int:=up V (sc c)*sc c
theorem rup_exact {V c M:Int} (h:V=M*sc c):rup10 V c=V:=by unfold rup10;rw[h,up_exact (sc_pos c)]
theorem sc_split {s c:Int} {k:Nat} (h:c=s+k) (hs:-400≤s):sc c=10^k*sc s:=by rw[h,sc_add hs,Nat.mul_comm]
theorem rup_fine {v s c:Int} {k:Nat} (h:c=s+k) (hs:-400≤s):rup10 (v*sc s) c=up v (10^k)*sc c:=by
 unfold rup10
 have e:up (v*(sc s:Int)) (sc c)=up v (10^k):=by rw[sc_split h hs];exact up_scale (sc_pos s) (Nat.pow_pos (by decide))
 rw[e]
theorem rup_coarse {v s c:Int} {k:Nat} (h:s=c+k) (hc:-400≤c):rup10 (v*sc s) c=v*sc s:=by
 refine rup_exact (M:=v*(10^k:Nat)) ?_
 rw[sc_split h hc,Int.natCast_mul,Int.mul_assoc]
theorem up_eq_iff {v:Int} {q:Nat} (hq:0<q):(up v q*q=v)↔v.natAbs%q=0:=by
 constructor
 ·intro h
  rw[←h,Int.natAbs_mul,Int.natAbs_natCast];exact Nat.mul_mod_left _ _
 ·intro h
  obtain⟨m,hm⟩:∃m:Int,v=m*q:=by
   have h1:(q:Int)∣v:=Int.natAbs_dvd_natAbs.1 (by rw[Int.natAbs_natCast];exact Nat.dvd_of_mod_eq_zero h)
   obtain⟨m,hm⟩:=h1
   exact⟨m,by rw[hm,Int.mul_comm]⟩
  rw[hm,up_exact hq]
def CV (w:World) (iv:Value) (V c0:Int):Prop:=
 (∃v s,iv=.iface 64 (amt v s)∧i64 v∧-100≤s∧s≤100∧V=v*sc s∧c0≤s)∨
 ∃b c n u,iv=.iface 67 (.agg #[.pointer (some ⟨b,0,none⟩)])∧IA w b (some c) n u∧DB n c∧V=dV n c
theorem CV.mod {w w':World} {iv:Value} {V c0:Int} (h:CV w iv V c0) (m:Mod [] w w'):CV w' iv V c0:=by
 rcases h with h|⟨b,c,n,u,h1,h2,h3⟩
 ·exact .inl h
 ·exact .inr ⟨b,c,n,u,h1,h2.mod m (by simp) (by simp),h3⟩
theorem upA_bound {n p k:Nat} (hp:0<p) (h:n≤k*p):upA n p≤k+1:=by
 unfold upA
 have:(n+p-1)/p≤(k*p+p)/p:=Nat.div_le_div_right (by omega)
 rw[←Nat.succ_mul,Nat.mul_div_cancel _ hp] at this
 exact this
theorem up_bound {V:Int} {p k:Nat} (hp:0<p) (h:V.natAbs≤k*p):(up V p).natAbs≤k+1:=by
 have:=upA_bound hp h
 unfold up
 split<;>omega
theorem mul_sc_inj {a b c:Int} (h:a*sc c=b*sc c):a=b:=Int.eq_of_mul_eq_mul_right (by have:=sc_pos c;omega) h
structure VB (V:Int):Prop where
 le:V.natAbs≤18446744073709551616*sc 0
 fine:∃m:Int,V=m*sc (-9)
theorem sc_mono {a b:Int} (h:a≤b):sc a≤sc b:=by unfold sc;exact Nat.pow_le_pow_right (by decide) (by omega)
theorem VB.cn {V M e:Int} (h:VB V) (hc:Cn V M e):M.natAbs<B^8:=by
 have hle:-9≤e:=by
  rcases Int.lt_or_le e (-9) with h1|h1
  ·exfalso
   have h3:=hc.three
   have hlo:=hc.lo
   obtain⟨m,hm⟩:=h.fine
   obtain⟨k,hk⟩:∃k:Nat,(-9:Int)=e+(k+3:Nat):=⟨(-9-e-3).toNat,by omega⟩
   have hv:=hc.v
   rw[hm,sc_split hk (by omega),Int.natCast_mul,←Int.mul_assoc] at hv
   have h5:=mul_sc_inj hv
   apply hc.m
   rw[←h5,Nat.pow_add,Int.natCast_mul]
   show (m*(((10^k:Nat):Int)*1000))%1000=0
   rw[←Int.mul_assoc]
   exact Int.mul_emod_left _ _
  ·exact h1
 have h1:M.natAbs*sc (-9)≤(18446744073709551616*1000000000)*sc (-9):=by
  have h2:V.natAbs=M.natAbs*sc e:=by rw[hc.v,Int.natAbs_mul,Int.natAbs_natCast]
  have h3:=h.le
  have h4:sc 0=1000000000*sc (-9):=by rw[sc_split (s:=-9) (c:=0) (k:=9) rfl (by decide)]
  rw[h2,h4,←Nat.mul_assoc] at h3
  exact Nat.le_trans (Nat.mul_le_mul_left _ (sc_mono hle)) h3
 have h5:=Nat.le_of_mul_le_mul_right h1 (sc_pos _)
 have h6:(18446744073709551616*1000000000:Nat)<B^8:=by rw[B_eq];decide+kernel
 omega
theorem VB.db {n c:Int} (h:VB (dV n c)) (h1:-170≤c) (h2:c≤170):DB n c:=by
 refine⟨?_,h1,h2⟩
 have h3:=h.le
 have h4:(dV n c).natAbs=n.natAbs*sc (-c):=by unfold dV;rw[Int.natAbs_mul,Int.natAbs_natCast]
 have h5:sc 0≤10^170*sc (-c):=by
  have e:sc 0=10^170*sc (-170):=sc_split (s:=-170) (c:=0) (k:=170) rfl (by decide)
  rw[e];exact Nat.mul_le_mul_left _ (sc_mono (by omega))
 have h6:n.natAbs*sc (-c)≤(18446744073709551616*10^170)*sc (-c):=by
  rw[h4] at h3
  rw[Nat.mul_assoc]
  exact Nat.le_trans h3 (Nat.mul_le_mul_left _ h5)
 have h7:=Nat.le_of_mul_le_mul_right h6 (sc_pos _)
 have h8:(18446744073709551616*10^170:Nat)<B^12:=by rw[B_eq];decide+kernel
 omega
theorem VB.up {V c:Int} (h:VB V) (hc:-9≤c):(up V (sc c)).natAbs<B^12:=by
 have h1:V.natAbs≤(18446744073709551616*1000000000)*sc c:=by
  have h2:sc 0≤1000000000*sc c:=by
   rw[sc_split (s:=-9) (c:=0) (k:=9) rfl (by decide),show (10:Nat)^9=1000000000 from rfl]
   refine Nat.mul_le_mul_left _ ?_
   unfold sc
   exact Nat.pow_le_pow_right (by decide) (by omega)
  rw[Nat.mul_assoc]
  exact Nat.le_trans h.le (Nat.mul_le_mul_left _ h2)
 have h3:=up_bound (sc_pos c) h1
 have h4:(18446744073709551616*1000000000+1:Nat)<B^12:=by rw[B_eq];decide+kernel
 omega
theorem i64_up {v:Int} {p:Nat} (hp:0<p) (hv:i64 v):i64 (up v p):=by
 have h1:=up_abs (M:=v) hp
 have h2:0≤v→0≤up v p:=fun h=>by unfold up;rw[if_neg (by omega)];omega
 have h3:v<0→up v p≤0:=fun h=>by unfold up;rw[if_pos h];omega
 unfold i64 at*
 omega
theorem cmpZI_beq (a b:Int):(cmpZI a b==0)=decide (a=b):=by
 rcases Int.lt_trichotomy a b with h|h|h
 ·rw[cmpZI_lt h];simp;omega
 ·rw[cmpZI_eq h];simp[h]
 ·rw[cmpZI_gt h];simp;omega
theorem nsF_rup {v s c:Int} {k:Nat} (h:c=s+k) (hs:-400≤s):(!nsF v k)=decide (rup10 (v*sc s) c=v*sc s):=by
 have hp:0<10^k:=Nat.pow_pos (by decide)
 have e:(rup10 (v*sc s) c=v*sc s)↔v.natAbs%10^k=0:=by
  rw[rup_fine h hs,sc_split h hs,Int.natCast_mul,←Int.mul_assoc,←up_eq_iff hp]
  exact⟨mul_sc_inj,fun q=>by rw[q]⟩
 unfold nsF
 by_cases hz:v.natAbs%10^k=0
 ·rw[decide_eq_true (e.2 hz)];simp[hz]
 ·rw[decide_eq_false (fun q=>hz (e.1 q))];simp[hz]
theorem rnd_rup {n c0 c:Int} (h1:-170≤c0) (h2:c0≤170) (h3:-170≤c) (h4:c≤170):dV (rnd n c0 (-c)) (-c)=rup10 (dV n c0) c:=by
 unfold dV rnd
 rw[Int.neg_neg]
 split
 ·rename_i h
  rw[rup_coarse (k:=(-c-c0).toNat) (by omega) (by omega)]
  rw[sc_split (c:=-c0) (s:=c) (k:=(-c-c0).toNat) (by omega) (by omega),Int.natCast_mul,Int.mul_assoc]
 ·rename_i h
  rw[rup_fine (k:=(c0- -c).toNat) (by omega) (by omega)]
def QScRet (V c:Int) (w:World) (e:Ending) (w':World):Prop:=
 ∃iv,e=.returned (.tuple #[iv,.bool (decide (rup10 V c=V))])∧CV w' iv (rup10 V c) c∧Mod [] w w'
theorem q_canon (bq:Nat) (V:Int) (f:Value) (bl:List Nat) (w:World) (he:Env2 w) (h:Qy w bq V f bl) (hB:VB V) (hV0:V≠0) (o:Value) (ho:o=.slice none 0 0):Calls Tryz.prog 39 #[.pointer (some ⟨bq,0,none⟩),o] w (CnRet V w):=by
 obtain⟨v,s,d,st,hd,hq⟩:=h.q
 have c0:=hd.cell (i:=0) (v:=.int .i64 v) rfl
 have c1:=hd.cell (i:=1) (v:=.int .i32 s) rfl
 have c2:=hd.cell (i:=2) (v:=d) rfl
 rcases hq with ⟨rfl,-,hv,h1,h2,hV⟩|⟨b,c,n,u,rfl,-,ia,db,hV⟩
 ·have AC:=Lh (amtCanon v s w he hv (fun h=>hV0 (by rw[hV,h,Int.zero_mul])) (by omega) (by omega) o ho)
  rw[←hV] at AC
  clear h hd hv h1 h2 hV he ho hB
  unfold amt at AC
  go_enter Tryz.func39,Tryz.ntmps39
  go_wp2_with fail
  refine AC.out.mono ?_
  rintro e w4 ⟨v5,M,ex,rfl,hcn⟩
  have HF:=Lh hcn
  clear hcn
  go_wp2_with fail
  go_ret2
  exact⟨v5,M,ex,rfl,HF.out⟩
 ·have AC:=Lh (infCanon_calls b c n u w he.env ia (fun h=>hV0 (by rw[hV,h];unfold dV;rw[Int.zero_mul])) (by have:=db.lo;omega) (by have:=db.hi;omega) db.b7 (fun M e hc=>hB.cn (by rw[hV];exact hc)) o ho)
  rw[show n*(sc (-c):Int)=V from hV.symm] at AC
  have p1:=dptr_nil b
  clear h hd ia db hV he ho hB
  go_enter Tryz.func39,Tryz.ntmps39
  go_wp2_with fail
  refine AC.out.mono ?_
  rintro e w4 ⟨v5,M,ex,rfl,hcn⟩
  have HF:=Lh hcn
  clear hcn
  go_wp2_with fail
  go_ret2
  exact⟨v5,M,ex,rfl,HF.out⟩
theorem q_asScale (bq:Nat) (V c:Int) (f:Value) (bl:List Nat) (w:World) (he:Env2 w) (h:Qy w bq V f bl) (hB:VB V) (h1:-9≤c) (h2:c≤18):Calls Tryz.prog 41 #[.pointer (some ⟨bq,0,none⟩),.int .i32 c] w (QScRet V c w):=by
 obtain⟨v,s,d,st,hd,hq⟩:=h.q
 have c0:=hd.cell (i:=0) (v:=.int .i64 v) rfl
 have c1:=hd.cell (i:=1) (v:=.int .i32 s) rfl
 have c2:=hd.cell (i:=2) (v:=d) rfl
 rcases hq with ⟨rfl,-,hv,h3,h4,hV⟩|⟨b,c',n,u,rfl,-,ia,db,hV⟩
 ·have AC:=Lh (amtAsScale v s c w hv (by omega) (by omega) (by omega) (by omega))
  have HH:=Lh (Aj hv (Aj h3 (Aj h4 (Aj hV (Aj h1 h2)))))
  clear h hd hv h1 h2 h3 h4 hV he hB
  unfold amt at AC
  go_enter Tryz.func41,Tryz.ntmps41
  go_wp2_with fail
  refine AC.out.mono ?_
  rintro e w4 ⟨m4,hr⟩
  obtain⟨hv,h3,h4,hV,h1,h2⟩:=HH.out
  rcases hr with ⟨hle,rfl⟩|⟨k,hk,hk0,rfl⟩
  ·have e1:rup10 V c=V:=by rw[hV];exact rup_coarse (k:=(s-c).toNat) (by omega) (by omega)
   have HF:=Lh (show QScRet V c w (.returned (.tuple #[.iface 64 (amt v s),.bool true])) w4 from ⟨_,by rw[decide_eq_true e1],.inl ⟨v,s,rfl,hv,h3,h4,by rw[e1,hV],hle⟩,m4⟩)
   clear hv h3 h4 hV h1 h2 e1 m4 hle
   unfold amt at HF ⊢
   go_wp2_with fail
   go_ret2
   exact HF.out
  ·have HF:=Lh (show QScRet V c w (.returned (.tuple #[.iface 64 (amt (up v (10^k)) c),.bool (!nsF v k)])) w4 from ⟨_,by rw[hV,nsF_rup hk (by omega)],.inl ⟨_,c,rfl,i64_up (Nat.pow_pos (by decide)) hv,by omega,by omega,by rw[hV,rup_fine hk (by omega)],by omega⟩,m4⟩)
   clear hv h3 h4 hV h1 h2 m4 hk hk0 HH AC
   unfold amt at HF ⊢
   generalize up v (10^k)=U at*
   generalize (!nsF v k)=F at*
   go_wp2_with fail
   go_ret2
   exact HF.out
 ·have AC:=Lh (infAsScale_calls b c' n c u w he.env ia db (by omega) (by omega))
  have p1:=dptr_nil b
  have HH:=Lh (Aj db (Aj hV (Aj hB (Aj h1 h2))))
  clear h hd ia db hV he hB h1 h2
  go_enter Tryz.func41,Tryz.ntmps41
  go_wp2_with fail
  refine AC.out.mono ?_
  rintro e w4 ⟨b2,u2,rfl,hr⟩
  obtain⟨db,hV,hB,h1,h2⟩:=HH.out
  have e1:=rnd_rup (n:=n) db.lo db.hi (show -170≤c by omega) (by omega)
  have hrr:rnd n c' (-c)=up V (sc c):=by
   rw[←hV] at e1
   unfold dV at e1
   rw[Int.neg_neg] at e1
   exact mul_sc_inj e1
  have hdb:DB (rnd n c' (-c)) (-c):=⟨by rw[hrr];exact hB.up h1,by omega,by omega⟩
  have HF:=Lh (show QScRet V c w (.returned (.tuple #[.iface 67 (.agg #[.pointer (some ⟨b2,0,none⟩)]),.bool (cmpZI (dV (rnd n c' (-c)) (-c)) (dV n c')==0)])) w4 from
   ⟨_,by rw[cmpZI_beq,e1,←hV],.inr ⟨b2,-c,_,u2,rfl,hr.ia,hdb,by rw[e1,←hV]⟩,hr.mod⟩)
  generalize (cmpZI (dV (rnd n c' (-c)) (-c)) (dV n c')==0)=F at*
  clear db hV hB h1 h2 e1 hrr hdb hr AC
  go_wp2_with fail
  go_ret2
  exact HF.out
end Go.Proofs.YtcpjclakdpjjfaaGreatDoor
namespace Go.Proofs.YtcpjclakdpjjfaaGreatDoor
open Go.RowKit Wd Dg
theorem i64_dB {v:Int} (hv:i64 v):v.natAbs<Big:=by
 have:=i64_pow hv (k:=0) (by omega)
 simpa using this
theorem q_cmpInt64 (bq:Nat) (V y:Int) (f:Value) (bl:List Nat) (w:World) (he:Env2 w) (h:Qy w bq V f bl) (hy:i64 y):Calls Tryz.prog 124 #[.pointer (some ⟨bq,0,none⟩),.int .i64 y] w fun e w'=>e=.returned (.int .i64 (cmpZI V (y*sc 0)))∧Mod [] w w':=by
 obtain⟨v,s,d,st,hd,hq⟩:=h.q
 have c0:=hd.cell (i:=0) (v:=.int .i64 v) rfl
 have c1:=hd.cell (i:=1) (v:=.int .i32 s) rfl
 have c2:=hd.cell (i:=2) (v:=d) rfl
 rcases hq with ⟨rfl,-,hv,h1,h2,hV⟩|⟨b,c,n,u,rfl,-,ia,db,hV⟩
 ·have AC:=Lh (amtCmp_calls v s y 0 w he hv hy (by omega) (by omega) (by omega) (by omega))
  have HV:=Lh hV
  clear h hd hv h1 h2 hV he hy
  unfold amt at AC
  go_enter Tryz.func124,Tryz.ntmps124
  go_wp2_with fail
  refine AC.out.mono ?_
  rintro e w4 ⟨rfl,m⟩
  have HM:=Lh m
  clear m
  go_wp2_with fail
  go_ret
  exact⟨by rw[HV.out];rfl,HM.out⟩
 ·have p1:=dptr_nil b
  have ND:=Lh (fun k=>newDec_calls y 0 (w.drewN k) ((he.drewN k).env.big) hy.1 hy.2)
  have FC:=Lh (fun w3 k b2 u2 (mm:Mod [] w w3) (i1:IA w3 b (some c) n u) (i2:IA w3 b2 (some 0) y u2) (hne:b≠b2)=>(dec_cmp b b2 c 0 n y u u2 (w3.drewN k) (((he.new mm).drewN k).env) (i1.drewN k) (i2.drewN k) hne (by have:=db.lo;omega) (by have:=db.hi;omega) (by omega) (by omega) (by have:=db.hi;omega) (by have:=db.lo;omega) db.big (i64_dB hy) (fun k hk=>db.pow (by have:=db.lo;omega)) (fun k hk=>i64_pow hy (by have:=db.hi;omega))).mono (fun e w' (h:DCmpRet _ _ e w')=>(show e=.returned (.int .i64 (cmpZI V (y*sc 0)))∧Mod [] w w' from ⟨by have q:=h.1;rw[←hV] at q;exact q,(mm.drewN k).trans h.2⟩)))
  have HI:=Lh (Aj ia hd)
  clear h hd ia db hV he hy
  generalize cmpZI V (y*sc 0)=R at*
  go_enter Tryz.func124,Tryz.ntmps124
  go_wp2_with fail
  go_region_law (first
   |(go_simp;go_at_call 81;refine(ND.out _).mono ?_;rintro e w3 ⟨b2,u2,rfl,hr2⟩;have HR2:=Lh (Aj hr2 (Aj (((Mod.refl [] w).drewN _).trans hr2.mod) (hr2.apart (HI.out.1.drewN _))));have e2:=(HI.out.2.mod HR2.out.2.1 (by simp)).cell (i:=2) (v:=.pointer (some ⟨b,0,none⟩)) rfl;clear hr2)
   |(go_simp;go_at_call 78;(first|refine(FC.out w3 _ b2 u2 HR2.out.2.1 HR2.out.2.2.2.2 HR2.out.1.ia HR2.out.2.2.1).mono ?_|refine(show Calls _ 78 _ w3 _ from FC.out w3 0 b2 u2 HR2.out.2.1 HR2.out.2.2.2.2 HR2.out.1.ia HR2.out.2.2.1).mono ?_);rintro e w4 ⟨rfl,hc2⟩;have HC:=Lh hc2;clear hc2))
  all_goals
   go_wp2_with fail
   go_ret
   exact⟨rfl,HC.out⟩
theorem Qy.box {w:World} {v s:Int} {d st f:Value} {V:Int} {bl:List Nat} (hq:QOk w v s d V bl) (hw:19≤w.heap.size):Qy (w.alloc (.cells (qc v s d st f) 70)) w.heap.size V f bl:=
 ⟨⟨v,s,d,st,Hd.new w 70 _,hq.mod ((Mod.refl [] w).alloc _) (by simp)⟩,hw⟩
def qv (v s:Int) (d st f:Value):Value:=.agg #[.int .i64 v,.int .i32 s,d,st,f]
theorem QDec.apart {w w1 w2:World} {bq by':Nat} {V W:Int} {f g:Value} {bl bm:List Nat} {b b2:Nat} {c n c2 n2:Int} {u u2:Value} (h:QDec w bq V f bl b c n u w1) (k:QDec w1 by' W g bm b2 c2 n2 u2 w2)
 (hd:∀k,k∈b::sb u→k∉bm) (hby:by'∉b::sb u):
 b≠b2∧IA w2 b (some c) n u∧(∀j,j∈sb u→j∉sb u2):=by
 have hlt:∀j,j∈b::sb u→j<w1.heap.size:=fun j hj=>(List.mem_cons.1 hj).elim (fun e=>by rw[e];exact h.ia.lt) (fun hj=>h.ia.nv.zs.lt j hj)
 have hdis:∀j,j∈b::sb u→j∉b2::sb u2:=fun j hj hj2=>(k.own j hj2).elim (fun hm=>hd j hj hm) (fun hm=>by have:=hlt j hj;omega)
 exact⟨fun e=>hdis b (by simp) (by simp[e]),h.ia.mod k.mod (fun hm=>hby (by rw[←List.mem_singleton.1 hm];simp)) (fun j hj hm=>hby (by rw[←List.mem_singleton.1 hm];simp[hj])),fun j hj hj2=>hdis j (by simp[hj]) (by simp[hj2])⟩
theorem QOk.off {w:World} {bq:Nat} {cs:Array Value} {v s:Int} {d:Value} {V:Int} {bl:List Nat} (k:QOk w v s d V bl) (h:Hd w bq 70 cs):bq∉bl:=by
 rcases k with ⟨-,rfl,-⟩|⟨b,c,n,u,h1,rfl,h3,h4,h5⟩
 ·simp
 ·intro hm
  rcases List.mem_cons.1 hm with rfl|hm
  ·have:=h.symm.trans h3.hd
   simp[hty] at this
  ·exact h.not_sb h3.nv.zs (by decide) hm
structure Q2 (w:World) (bq:Nat) (V:Int) (f:Value) (bl:List Nat) (vy sy:Int) (dy sty fy:Value) (Vy:Int) (bly:List Nat) (W:World):Prop where
 env:Env2 W
 q:Qy W bq V f bl
 b:Qy W w.heap.size Vy fy bly
 bd:Hd W w.heap.size 70 (qc vy sy dy sty fy)
 bk:QOk W vy sy dy Vy bly
 mod:Mod [bq] w W
 ne:bq<w.heap.size
 dis:∀k,k∈bl→k∉bly
 l1:∀k,k∈bl→k<w.heap.size
 l2:∀k,k∈bly→k<w.heap.size
 nb:bq∉bly
 big:w.heap.size<W.heap.size
theorem Q2.start {w:World} {bq:Nat} {V:Int} {f:Value} {bl:List Nat} {vy sy:Int} {dy sty fy:Value} {Vy:Int} {bly:List Nat} (he:Env2 w) (h:Qy w bq V f bl) (hy:QOk w vy sy dy Vy bly) (hdis:∀k,k∈bl→k∉bly):
 Q2 w bq V f bl vy sy dy sty fy Vy bly (w.alloc (.cells (qc vy sy dy sty fy) 70)):=by
 have m:Mod [] w (w.alloc (.cells (qc vy sy dy sty fy) 70)):=(Mod.refl [] w).alloc _
 obtain⟨v,s,d,st,hd,hq⟩:=h.q
 exact⟨he.new m,h.mod m (by simp) (by simp),Qy.box hy he.env.big,Hd.new w 70 _,hy.mod m (by simp),m.mono (by simp),hd.lt,hdis,fun k hk=>(hq.lt k hk).2,fun k hk=>(hy.lt k hk).2,hy.off hd,by simp⟩
theorem Q2.second {w W w1:World} {bq:Nat} {V:Int} {f:Value} {bl:List Nat} {vy sy:Int} {dy sty fy:Value} {Vy:Int} {bly:List Nat} (h:Q2 w bq V f bl vy sy dy sty fy Vy bly W) {b:Nat} {c n:Int} {u:Value} (k:QDec W bq V f bl b c n u w1):
 Qy w1 w.heap.size Vy fy bly∧Env2 w1∧(∀j,j∈b::sb u→j∉bly)∧w.heap.size∉b::sb u:=by
 have hne:=h.ne
 refine⟨h.b.mod k.mod (by simp;omega) (fun j hj hm=>h.nb (by rw[←List.mem_singleton.1 hm];exact hj)),h.env.mod k.mod (by have:=h.q.lo;simp;omega),fun j hj hj2=>?_,fun hm=>?_⟩
 ·rcases k.own j hj with h1|h1
  ·exact h.dis j h1 hj2
  ·have:=h.l2 j hj2;have:=h.big;omega
 ·rcases k.own _ hm with h1|h1
  ·have:=h.l1 _ h1;omega
  ·have:=h.big;omega
theorem q_cmp (bq:Nat) (V:Int) (f:Value) (bl:List Nat) (vy sy:Int) (dy sty fy:Value) (Vy:Int) (bly:List Nat) (w:World) (he:Env2 w) (h:Qy w bq V f bl) (hy:QOk w vy sy dy Vy bly) (hdis:∀k,k∈bl→k∉bly):
 Calls Tryz.prog 46 #[.pointer (some ⟨bq,0,none⟩),qv vy sy dy sty fy] w fun e w'=>e=.returned (.int .i64 (cmpZI V Vy))∧Mod [bq] w w':=by
 have h2:=Q2.start (sty:=sty) (fy:=fy) he h hy hdis
 obtain⟨v,s,d,st,hd,hq⟩:=h2.q.q
 have c0:=hd.cell (i:=0) (v:=.int .i64 v) rfl
 have c1:=hd.cell (i:=1) (v:=.int .i32 s) rfl
 have c2:=hd.cell (i:=2) (v:=d) rfl
 have e0:=h2.bd.cell (i:=0) (v:=.int .i64 vy) rfl
 have e1:=h2.bd.cell (i:=1) (v:=.int .i32 sy) rfl
 have e2:=h2.bd.cell (i:=2) (v:=dy) rfl
 have AD:=Lh (q_asDec bq V f bl _ h2.env.env h2.q)
 have HQ2:=Lh h2
 unfold qv
 by_cases hnn:d=.pointer none∧dy=.pointer none
 ·obtain⟨rfl,rfl⟩:=hnn
  rcases hq with ⟨-,-,hv,h1,h3,hV⟩|⟨b,c,n,u,hx,-⟩
  ·rcases h2.bk with ⟨-,-,hvy,h4,h5,hVy⟩|⟨b,c,n,u,hx,-⟩
   ·have AC:=Lh (fun k=>amtCmp_calls v s vy sy ((w.alloc (.cells (qc vy sy (.pointer none) sty fy) 70)).drewN k) (h2.env.drewN k) hv hvy (by omega) (by omega) (by omega) (by omega))
    have HV:=Lh (Aj hV hVy)
    clear h he hy hdis h2 hd hv h1 h3 hV hvy h4 h5 hVy AD
    unfold amt qc at*
    go_enter Tryz.func46,Tryz.ntmps46
    go_wp2_with fail
    go_region_law (first|(go_simp;go_at_call 88;refine(AC.out _).mono ?_;rintro e w2 ⟨rfl,hm⟩;have HM:=Lh hm;clear hm))
    all_goals
     go_wp2_with fail
     go_ret
     exact⟨by rw[HV.out.1,HV.out.2];rfl,(HQ2.out.mod.drewN _).trans (HM.out.mono (by simp))⟩
   ·cases hx
  ·cases hx
 ·have FIN:∀b c n u w1,QDec (w.alloc (.cells (qc vy sy dy sty fy) 70)) bq V f bl b c n u w1→Calls Tryz.prog 89 #[.pointer (some ⟨w.heap.size,0,none⟩)] w1 (AsDecRet w1 w.heap.size Vy fy bly)∧∀b2 c2 n2 u2 w2,QDec w1 w.heap.size Vy fy bly b2 c2 n2 u2 w2→Calls Tryz.prog 78 #[.pointer (some ⟨b,0,none⟩),.pointer (some ⟨b2,0,none⟩)] w2 fun e w'=>e=.returned (.int .i64 (cmpZI V Vy))∧Mod [bq] w w':=by
   intro b c n u w1 k1
   obtain⟨q1,q2,q3,q4⟩:=h2.second k1
   refine⟨q_asDec _ Vy fy bly w1 q2.env q1,fun b2 c2 n2 u2 w2 k2=>?_⟩
   obtain⟨r1,r2,r3⟩:=k1.apart k2 q3 q4
   have d1:=k1.db
   have d2:=k2.db
   have env2:Env2 w2:=q2.mod k2.mod (by have:=q1.lo;simp;omega)
   refine(dec_cmp b b2 c c2 n n2 u u2 w2 env2.env r2 k2.ia r1 (by have:=d1.lo;omega) (by have:=d1.hi;omega) (by have:=d2.lo;omega) (by have:=d2.hi;omega) (by have:=d1.hi;have:=d2.lo;omega) (by have:=d2.hi;have:=d1.lo;omega) d1.big d2.big (fun k hk=>d1.pow (by have:=d1.lo;have:=d2.hi;omega)) (fun k hk=>d2.pow (by have:=d2.lo;have:=d1.hi;omega))).mono ?_
   rintro e w' ⟨rfl,m3⟩
   rw[←k1.v,←k2.v]
   refine⟨rfl,((h2.mod.trans k1.mod).step k2.mod (fun x hx=>.inr (by rw[List.mem_singleton.1 hx];exact Nat.le_refl _))).trans (m3.mono (by simp))⟩
  have HF:=Lh FIN
  have hpn:(∃b0,d=.pointer (some ⟨b0,0,none⟩))∨(d=.pointer none∧∃b0,dy=.pointer (some ⟨b0,0,none⟩)):=by
   rcases hq with ⟨rfl,-⟩|⟨b,c,n,u,rfl,-⟩
   ·right
    rcases h2.bk with ⟨rfl,-⟩|⟨b,c,n,u,rfl,-⟩
    ·exact absurd ⟨rfl,rfl⟩ hnn
    ·exact⟨rfl,b,rfl⟩
   ·left;exact⟨b,rfl⟩
  clear h he hy hdis h2 hd hq hnn FIN
  rcases hpn with ⟨b0,rfl⟩|⟨rfl,b0,rfl⟩
  all_goals
   have hp:=dptr_nil' b0
   unfold qc at*
   go_enter Tryz.func46,Tryz.ntmps46
   go_wp2_with fail
   refine AD.out.mono ?_
   rintro e w1 ⟨b,c,n,u,rfl,k1⟩
   obtain⟨AD2,FC⟩:=HF.out b c n u w1 k1
   have A2:=Lh AD2
   have F2:=Lh FC
   clear AD2 FC k1
   go_wp2_with fail
   refine A2.out.mono ?_
   rintro e w2 ⟨b2,c2,n2,u2,rfl,k2⟩
   have F3:=Lh (F2.out b2 c2 n2 u2 w2 k2)
   clear k2
   go_wp2_with fail
   refine F3.out.mono ?_
   rintro e w3 ⟨rfl,m3⟩
   have HM:=Lh m3
   clear m3
   go_wp2_with fail
   go_ret
   exact⟨rfl,HM.out⟩
end Go.Proofs.YtcpjclakdpjjfaaGreatDoor
namespace Go.Proofs.YtcpjclakdpjjfaaGreatDoor
open Go.ChangeShapes Go.WideShapes Go.RowKit
theorem laid_at {P:Program} {w:World}:∀{l:List (String×DataW Unit)} {ps:List MemPlace},DataW.LaidVars P w l ps→∀{n:String} {d:DataW Unit},(n,d)∈l→
 ∃g t cs fuel p,P.globalNamed n=some g∧(P.globals[g]?).map (·.type)=some t∧w.var? P n=some cs∧DataW.trod (fun _=>()) P w 0 (fun _=>true) false fuel t cs.toList=some (d,p)∧∀x,x∈MemPlace.row ⟨g,0,none⟩ cs.size++p→x∈ps
 | [],_,_,_,_,hm=>by cases hm
 |(n',d')::r,ps,h,n,d,hm=>by
  obtain⟨g,t,cs,fuel,p,q,h1,h2,h3,h4,h5,h6⟩:=h
  rcases List.mem_cons.1 hm with e|hm
  ·obtain⟨rfl,rfl⟩:=Prod.mk.inj e
   exact⟨g,t,cs,fuel,p,h1,h2,h3,h4,fun x hx=>by rw[h6];exact List.mem_append_left _ hx⟩
  ·obtain⟨g',t',cs',f',p',k1,k2,k3,k4,k5⟩:=laid_at h5 hm
   exact⟨g',t',cs',f',p',k1,k2,k3,k4,fun x hx=>by rw[h6];exact List.mem_append_right _ (k5 x hx)⟩
theorem laid_int {w:World} {l:List (String×DataW Unit)} {ps:List MemPlace} (h:DataW.LaidVars Tryz.prog w l ps) {n:String} {g:Nat} {t:TypeId} {k:IntKind} {x:Int} (hm:(n,(.lit (.int k x):DataW Unit))∈l) (hg:Tryz.prog.globalNamed n=some g) (ht:(Tryz.prog.globals[g]?).map (·.type)=some t) (hu:Tryz.prog.underlying t=some (.int k)):
 w.cell? ⟨g,0,none⟩=some (.int k x):=by
 obtain⟨g',t',cs,fuel,p,h1,h2,h3,h4,-⟩:=laid_at h hm
 obtain rfl:=Option.some.inj (hg.symm.trans h1)
 obtain rfl:=Option.some.inj (ht.symm.trans h2)
 obtain⟨z,e1,e2,_⟩:=DataW.trod_int hu h4
 have:=World.var?_cell h1 h3 0
 have hz:z=x:=by
  have:=(Prod.mk.inj e2).1
  simpa using this.symm
 rw[this]
 obtain⟨ll⟩:=cs
 simp only at e1
 rw[←hz]
 simp[e1]
theorem laid_tab {w:World} {l:List (String×DataW Unit)} {ps:List MemPlace} (h:DataW.LaidVars Tryz.prog w l ps) {n:String} {g m:Nat} {t e:TypeId} {k:IntKind} {zs:List Int} (hm:(n,(Lib.tabData k zs:DataW Unit))∈l) (hg:Tryz.prog.globalNamed n=some g) (hty:(Tryz.prog.globals[g]?).map (·.type)=some t) (ht:Tryz.prog.underlying t=some (.array m e)) (he:Tryz.prog.underlying e=some (.int k)) (hce:Tryz.prog.cellsOf e=1) (hct:Tryz.prog.cellsOf t=m):
 Lib.TabIs Tryz.prog w n k zs:=by
 obtain⟨g',t',cs,fuel,p,h1,h2,h3,h4,-⟩:=laid_at h hm
 obtain rfl:=Option.some.inj (hg.symm.trans h1)
 obtain rfl:=Option.some.inj (hty.symm.trans h2)
 unfold Lib.TabIs
 rw[h3,←Lib.cells_of_tab ht he hce hct h4]
theorem row260 (u:TypeId) (h:Tryz.prog.typeName? 3 u=some "*errors.errorString"):u=260:=
 typeName_ptr_named (nm:= "errors.errorString") (by kernel_rfl) (by kernel_rfl) (by decide) u h
structure LaidEnv (w:World):Prop where
 g6:w.cell? ⟨6,0,none⟩=some (.int .i64 12)
 g7:w.cell? ⟨7,0,none⟩=some (.int .i64 80)
 g8:w.cell? ⟨8,0,none⟩=some (.int .i64 40)
 g12:w.cell? ⟨12,0,none⟩=some (.int .i64 8)
 g16:w.cell? ⟨16,0,none⟩=some (.int .i64 40)
 big:19≤w.heap.size
 tab:Lib.TabIs Tryz.prog w "internal/strconv.uint64pow10" .u64 Lib.pow10Tab
 eof:∃a:Addr,w.cell? ⟨3,0,none⟩=some (.iface 260 (.pointer (some a)))
theorem laid_env {w:World} (h:laidMetH Tryz.prog Rows.fnQuantityReadsRow.laid w):LaidEnv w:=by
 rw[MakeChecks.laidMetH_plain _ _ _ (by kernel_rfl)] at h
 obtain⟨ps,hl,hnd,hrows⟩:=h
 have g18:Lib.TabIs Tryz.prog w "math/bits.deBruijn64tab" .u8 [0,1,56,2,57,49,28,3,61,58,42,50,38,29,17,4,62,47,59,36,45,43,51,22,53,39,33,30,24,18,12,5,63,55,48,27,60,41,37,16,46,35,44,21,52,32,23,11,54,26,40,15,34,20,31,10,25,14,19,9,13,8,7,6]:=
  laid_tab (g:=18) (t:=358) (m:=64) (e:=5) hl (List.mem_of_getElem? (i:=1) (by kernel_rfl)) (by kernel_rfl) (by kernel_rfl) (by kernel_rfl) (by kernel_rfl) (by kernel_rfl) (by kernel_rfl)
 have c18:=Lib.TabIs.cell g18 (show Tryz.prog.globalNamed "math/bits.deBruijn64tab"=some 18 by kernel_rfl) 0 (by decide)
 refine⟨?_,?_,?_,?_,?_,?_,?_,?_⟩
 ·exact laid_int (n:= "pub-stockroom/pub/bigall.basicSqrThreshold") (t:=3) hl (List.mem_of_getElem? (i:=12) (by kernel_rfl)) (by kernel_rfl) (by kernel_rfl) (by kernel_rfl)
 ·exact laid_int (n:= "pub-stockroom/pub/bigall.karatsubaSqrThreshold") (t:=3) hl (List.mem_of_getElem? (i:=13) (by kernel_rfl)) (by kernel_rfl) (by kernel_rfl) (by kernel_rfl)
 ·exact laid_int (n:= "pub-stockroom/pub/bigall.karatsubaThreshold") (t:=3) hl (List.mem_of_getElem? (i:=11) (by kernel_rfl)) (by kernel_rfl) (by kernel_rfl) (by kernel_rfl)
 ·exact laid_int (n:= "pub-stockroom/pub/bigall.leafSize") (t:=3) hl (List.mem_of_getElem? (i:=9) (by kernel_rfl)) (by kernel_rfl) (by kernel_rfl) (by kernel_rfl)
 ·exact laid_int (n:= "pub-stockroom/pub/bigall.divRecursiveThreshold") (t:=3) hl (List.mem_of_getElem? (i:=10) (by kernel_rfl)) (by kernel_rfl) (by kernel_rfl) (by kernel_rfl)
 ·have:=World.block_lt_of_cell? w _ c18
  exact this
 ·exact laid_tab (g:=13) (t:=346) (m:=20) (e:=96) hl (List.mem_of_getElem? (i:=2) (by kernel_rfl)) (by kernel_rfl) (by kernel_rfl) (by kernel_rfl) (by kernel_rfl) (by kernel_rfl) (by kernel_rfl)
 ·obtain⟨g',t',cs,fuel,p,h1,h2,h3,h4,h5⟩:=laid_at hl (n:= "io.EOF") (d:=Rows.laid_io_EOF) (List.mem_of_getElem? (i:=6) (by kernel_rfl))
  obtain rfl:=Option.some.inj ((show Tryz.prog.globalNamed "io.EOF"=some 3 by kernel_rfl).symm.trans h1)
  obtain rfl:=Option.some.inj ((show (Tryz.prog.globals[3]?).map (·.type)=some 72 by kernel_rfl).symm.trans h2)
  have hsz:0<cs.size:=by
   obtain⟨_,u,v,e,-⟩:=iface_of_trod Tryz.underlying72 h4
   have:=congrArg List.length e
   simp at this
   omega
  have hok:∀u v,cs.toList=[.iface u v]→Value.okWide Tryz.prog w .any 0 u v:=fun u v e=>by
   refine(hrows 3 0 (h5 _ (List.mem_append_left _ ?_))).2 u v ?_
   ·exact MemPlace.mem_row.2 ⟨0,hsz,rfl⟩
   ·rw[World.var?_cell h1 h3 0]
    obtain⟨ll⟩:=cs
    simp only at e
    rw[e];rfl
  obtain⟨a,s,e,-⟩:=errorString_of_trod Tryz.underlying72 row260 Tryz.underlying260 Tryz.underlying262 rfl rfl Tryz.underlying9 (by kernel_rfl) (by kernel_rfl) h4 hok
  refine⟨a,?_⟩
  rw[World.var?_cell h1 h3 0]
  obtain⟨ll⟩:=cs
  simp only at e
  rw[e];rfl
end Go.Proofs.YtcpjclakdpjjfaaGreatDoor
namespace Go.Proofs.YtcpjclakdpjjfaaGreatDoor
open Go.ChangeShapes Go.WideShapes Go.RowKit
structure WdFit (sign:Int) (num:ByteArray) (den:ByteArray) (kind place ps:Int) (pow:ByteArray):Prop where
 f0:(Lit.int .i64 sign).wf=true
 f1:num.size≤maxLen
 f3:den.size≤maxLen
 f4:(Lit.int .i64 kind).wf=true
 f5:(Lit.int .i64 place).wf=true
 f7:(Lit.int .i64 ps).wf=true
 f8:pow.size≤maxLen
def wdat {H:Type} (sign:Int) (num:ByteArray) (dot:Bool) (den:ByteArray) (kind place:Int) (up:Bool) (ps:Int) (pow:ByteArray):DataW H:=
 .agg [.lit (.int .i64 sign),.lit (.string num.data.toList),.lit (.bool dot),.lit (.string den.data.toList),.lit (.int .i64 kind),.lit (.int .i64 place),.lit (.bool up),.lit (.int .i64 ps),.lit (.string pow.data.toList)]
theorem array9 {α:Type} {cs:Array α} (h:cs.size=9):∃c0 c1 c2 c3 c4 c5 c6 c7 c8,cs=#[c0,c1,c2,c3,c4,c5,c6,c7,c8]:=by
 obtain⟨l⟩:=cs
 match l,h with
 | [c0,c1,c2,c3,c4,c5,c6,c7,c8],_=>exact⟨c0,c1,c2,c3,c4,c5,c6,c7,c8,rfl⟩
theorem list9 {α:Type} {l:List α} (h:l.length=9):∃c0 c1 c2 c3 c4 c5 c6 c7 c8,l=[c0,c1,c2,c3,c4,c5,c6,c7,c8]:=by
 match l,h with
 | [c0,c1,c2,c3,c4,c5,c6,c7,c8],_=>exact⟨c0,c1,c2,c3,c4,c5,c6,c7,c8,rfl⟩
theorem cells3:Tryz.prog.cellsOf 3=1:=by kernel_rfl
theorem cells4:Tryz.prog.cellsOf 4=1:=by kernel_rfl
theorem cells9:Tryz.prog.cellsOf 9=1:=by kernel_rfl
theorem cells23:Tryz.prog.cellsOf 23=9:=by kernel_rfl
section
variable {H:Type} {enc:TypeId×Value→H}
theorem word_open {W:World} {r:Reach} {b0 base:Nat} {sp:Nat→Bool} {held:Bool} {v:Value} {d:DataW H} {p:List MemPlace} (hv:Value.okWide Tryz.prog W r b0 23 v) (h:DataW.Trod enc Tryz.prog W base sp held 23 v d p):
 ∃sign num dot den kind place up ps pow,v=.agg #[.int .i64 sign,.string num,.bool dot,.string den,.int .i64 kind,.int .i64 place,.bool up,.int .i64 ps,.string pow]∧WdFit sign num den kind place ps pow∧d=wdat sign num dot den kind place up ps pow∧p=[]:=by
 obtain⟨cs,rfl,hsz⟩:=okWide_struct Tryz.underlying23 hv
 obtain⟨c0,c1,c2,c3,c4,c5,c6,c7,c8,rfl⟩:=array9 (hsz.trans cells23)
 obtain⟨fuel,hf⟩:=h
 obtain⟨xs,n,_,hx,_,hlen,hel⟩:=DataW.trod_struct Tryz.underlying23 hf
 obtain⟨y0,y1,y2,y3,y4,y5,y6,y7,y8,rfl⟩:=list9 hlen
 have e0:DataW.trod enc Tryz.prog W base sp held n 3 [c0]=some y0:=by have:=hel 0 _ rfl;simpa [Value.cells,cells3] using this
 have e1:DataW.trod enc Tryz.prog W base sp held n 9 [c1]=some y1:=by have:=hel 1 _ rfl;simpa [Value.cells,cells9] using this
 have e2:DataW.trod enc Tryz.prog W base sp held n 4 [c2]=some y2:=by have:=hel 2 _ rfl;simpa [Value.cells,cells4] using this
 have e3:DataW.trod enc Tryz.prog W base sp held n 9 [c3]=some y3:=by have:=hel 3 _ rfl;simpa [Value.cells,cells9] using this
 have e4:DataW.trod enc Tryz.prog W base sp held n 3 [c4]=some y4:=by have:=hel 4 _ rfl;simpa [Value.cells,cells3] using this
 have e5:DataW.trod enc Tryz.prog W base sp held n 3 [c5]=some y5:=by have:=hel 5 _ rfl;simpa [Value.cells,cells3] using this
 have e6:DataW.trod enc Tryz.prog W base sp held n 4 [c6]=some y6:=by have:=hel 6 _ rfl;simpa [Value.cells,cells4] using this
 have e7:DataW.trod enc Tryz.prog W base sp held n 3 [c7]=some y7:=by have:=hel 7 _ rfl;simpa [Value.cells,cells3] using this
 have e8:DataW.trod enc Tryz.prog W base sp held n 9 [c8]=some y8:=by have:=hel 8 _ rfl;simpa [Value.cells,cells9] using this
 obtain⟨sign,k0,rfl,w0⟩:=DataW.trod_int Tryz.underlying3 e0
 obtain⟨num,k1,rfl,w1⟩:=DataW.trod_string Tryz.underlying9 e1
 obtain⟨dot,k2,rfl⟩:=DataW.trod_bool Tryz.underlying4 e2
 obtain⟨den,k3,rfl,w3⟩:=DataW.trod_string Tryz.underlying9 e3
 obtain⟨kind,k4,rfl,w4⟩:=DataW.trod_int Tryz.underlying3 e4
 obtain⟨place,k5,rfl,w5⟩:=DataW.trod_int Tryz.underlying3 e5
 obtain⟨up,k6,rfl⟩:=DataW.trod_bool Tryz.underlying4 e6
 obtain⟨ps,k7,rfl,w7⟩:=DataW.trod_int Tryz.underlying3 e7
 obtain⟨pow,k8,rfl,w8⟩:=DataW.trod_string Tryz.underlying9 e8
 simp only[List.cons.injEq,and_true] at k0 k1 k2 k3 k4 k5 k6 k7 k8
 subst k0 k1 k2 k3 k4 k5 k6 k7 k8
 simp only[Prod.mk.injEq] at hx
 exact⟨sign,num,dot,den,kind,place,up,ps,pow,rfl,⟨w0,w1,w3,w4,w5,w7,w8⟩,hx.1,hx.2⟩
theorem word_shut {sign:Int} {num:ByteArray} {den:ByteArray} {kind place ps:Int} {pow:ByteArray} (h:WdFit sign num den kind place ps pow) (dot up:Bool) (W:World) (base:Nat) (sp:Nat→Bool) (held:Bool):
 DataW.Trod enc Tryz.prog W base sp held 23 (.agg #[.int .i64 sign,.string num,.bool dot,.string den,.int .i64 kind,.int .i64 place,.bool up,.int .i64 ps,.string pow]) (wdat sign num dot den kind place up ps pow) []:=by
 have hs:∀s:ByteArray,s.size≤maxLen→DataW.trod enc Tryz.prog W base sp held 1 9 [.string s]=some (.lit (.string s.data.toList),[]):=fun s hs=>by
  simp[DataW.trod,Tryz.underlying9,hs]
 have hb:∀b:Bool,DataW.trod enc Tryz.prog W base sp held 1 4 [.bool b]=some (.lit (.bool b),[]):=fun b=>by simp[DataW.trod,Tryz.underlying4]
 have hi:∀x:Int,(Lit.int .i64 x).wf=true→DataW.trod enc Tryz.prog W base sp held 1 3 [.int .i64 x]=some (.lit (.int .i64 x),[]):=fun x hx=>trod_int_mk 0 Tryz.underlying3 hx
 have:=trod_struct_mk (enc:=enc) (w:=W) (base:=base) (spare:=sp) (held:=held) (n:=1) (cs:=[.int .i64 sign,.string num,.bool dot,.string den,.int .i64 kind,.int .i64 place,.bool up,.int .i64 ps,.string pow])
  (xs:=[(.lit (.int .i64 sign),[]),(.lit (.string num.data.toList),[]),(.lit (.bool dot),[]),(.lit (.string den.data.toList),[]),(.lit (.int .i64 kind),[]),(.lit (.int .i64 place),[]),(.lit (.bool up),[]),(.lit (.int .i64 ps),[]),(.lit (.string pow.data.toList),[])]) Tryz.underlying23 (by rw[cells23];rfl)
  (by simp[cells3,cells4,cells9,hs,hb,hi,h.f0,h.f1,h.f3,h.f4,h.f5,h.f7,h.f8])
 exact⟨2,by simpa [Value.cells,wdat] using this⟩
end
end Go.Proofs.YtcpjclakdpjjfaaGreatDoor
