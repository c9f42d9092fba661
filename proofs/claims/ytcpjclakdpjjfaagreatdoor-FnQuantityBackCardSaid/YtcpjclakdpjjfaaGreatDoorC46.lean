/- Quantities turned in place (resource/quantity. -/
import Derived.Test.YtcpjclakdpjjfaaGreatDoorC28
set_option maxHeartbeats 4000000
set_option maxRecDepth 10000
namespace Go.Proofs.YtcpjclakdpjjfaaGreatDoor
open Go.RowKit Wd Dg
def QtR (w:World) (bq:Nat) (bl:List Nat) (V':Int) (f':Value) (w':World):Prop:=
 ∃bl',Qy w' bq V' f' bl'∧Mod (bq::bl) w w'∧(∀k,k∈bl'→k∈bl∨w.heap.size≤k)
theorem QtR.amt {w w':World} {bq:Nat} {v s:Int} {st f:Value} {bl:List Nat} (h:Hd w' bq 70 (qc v s (.pointer none) st f)) (lo:19≤bq) (m:Mod [bq] w w') (hv:i64 v) (h1:-100≤s) (h2:s≤100):QtR w bq bl (v*sc s) f w':=
 ⟨[],⟨⟨v,s,_,st,h,.inl ⟨rfl,rfl,hv,h1,h2,rfl⟩⟩,lo⟩,m.mono (fun x hx=>.inl (by simp at hx;simp[hx])),by simp⟩
theorem QtR.dec {w w':World} {bq:Nat} {v s:Int} {st f:Value} {bl:List Nat} {b:Nat} {c n:Int} {u:Value} (h:Hd w' bq 70 (qc v s (.pointer (some ⟨b,0,none⟩)) st f)) (lo:19≤bq) (m:Mod (bq::bl) w w') (ia:IA w' b (some c) n u) (db:DB n c)
 (own:∀k,k∈b::sb u→k∈bl∨w.heap.size≤k):QtR w bq bl (dV n c) f w':=
 ⟨b::sb u,⟨⟨v,s,_,st,h,.inr ⟨b,c,n,u,rfl,rfl,ia,db,rfl⟩⟩,lo⟩,m,own⟩
theorem DB.neg {n c:Int} (h:DB n c):DB (-n) c:=⟨by rw[Int.natAbs_neg];exact h.n,h.lo,h.hi⟩
theorem q_neg (bq:Nat) (v s:Int) (d st f:Value) (V:Int) (bl:List Nat) (w:World) (hd:Hd w bq 70 (qc v s d st f)) (hq:QOk w v s d V bl) (lo:19≤bq) (hmin:v≠-9223372036854775808):Calls Tryz.prog 51 #[.pointer (some ⟨bq,0,none⟩)] w fun e w'=>e=.returned (.tuple #[])∧QtR w bq bl (-V) f w':=by
 have f2:=hd.free
 have hd1:=hd.set 3 (.string ⟨#[]⟩)
 have c3:=hd.cell (i:=3) (v:=st) rfl
 have hqn:=hq.off hd
 have m1:Mod [bq] w (w.setCell ⟨bq,3,none⟩ (.string ⟨#[]⟩)):=(Mod.refl [bq] w).setCell _ (.inl (by simp))
 have hq1:=hq.mod m1 (fun k hk hm=>hqn (by rw[←List.mem_singleton.1 hm];exact hk))
 have HW:=Lh (Aj hd1 (Aj m1 hq1))
 clear hd hq hd1 m1 hq1 hqn
 go_enter Tryz.func51,Tryz.ntmps51
 go_upto_region 1 with fail
 obtain⟨hd,m1,hq⟩:=HW.out
 clear f2 c3 HW
 generalize w.setCell ⟨bq,3,none⟩ (.string ⟨#[]⟩)=W at*
 have hd':Hd W bq 70 (qc v s d (.string ⟨#[]⟩) f):=hd
 have c0:=hd'.cell (i:=0) (v:=.int .i64 v) rfl
 have c2:=hd'.cell (i:=2) (v:=d) rfl
 have fr:=hd'.free
 rcases hq with ⟨rfl,rfl,hv,h1,h2,hV⟩|⟨b,c,n,u,rfl,rfl,ia,db,hV⟩
 ·have T:=Lh<| show wrap64 (-v)=-v by unfold i64 at hv;unfold wrap64;omega
  have hvn:i64 (-v):=by unfold i64 at*;omega
  have HF:=Lh (show ∀x,x=-v→QtR w bq [] (-V) f (W.setCell ⟨bq,0,none⟩ (.int .i64 x)) from fun x hx=>by
   have:=QtR.amt (w:=w) (bl:=[]) (hd'.set 0 (.int .i64 (-v))) lo (m1.setCell _ (.inl (by simp))) hvn h1 h2
   rw[hx,hV,←Int.neg_mul];exact this)
  clear hd hd' hv h1 h2 hV hvn m1 hmin
  go_wp2_with fail
  refine bodyPost_ret (results_none rfl _ _ _) rfl ?_
  exact⟨rfl,HF.out _ T.out⟩
 ·have p1:=dptr_nil' b
  have HO:=Lh (show bq∉b::sb u from QOk.off (w:=W) (v:=v) (s:=s) (V:=V) (.inr ⟨b,c,n,u,rfl,rfl,ia,db,hV⟩) hd')
  have DN:=Lh (fun k=>dec_neg b c n u (W.drewN k) (ia.drewN k))
  have HH:=Lh (Aj hd' (Aj m1 (Aj ia (Aj db (Aj hV lo)))))
  clear hd hd' m1 ia db hV lo hmin
  go_wp2_with fail
  go_region_held3 (fun w'=>w'.cell? ⟨bq,2,none⟩=some (.pointer (some ⟨b,0,none⟩))) (go_keep)
   (first|(go_at_call 74;refine(DN.out _).mono ?_;rintro e w2 ⟨rfl,u2,hr⟩;have HR:=Lh hr;have q2:=(HH.out.1.mod (((Mod.refl _ W).drewN _).trans hr.mod) HO.out).cell (i:=2) (v:=.pointer (some ⟨b,0,none⟩)) rfl;clear hr))
  all_goals
   go_wp2_with fail
   go_returns
   obtain⟨hd,m1,ia,db,hV,lo⟩:=HH.out
   have hr:=HR.out
   have m2:Mod (b::sb u) W w2:=((Mod.refl _ W).drewN _).trans hr.mod
   have hx:=QtR.dec (w:=w) (bl:=b::sb u) (f:=f) (hd.mod m2 HO.out) lo ((m1.mono (fun x hx=>.inl (by simp at hx;simp[hx]))).trans (m2.mono (fun x hx=>.inl (List.mem_cons_of_mem _ hx)))) hr.ia db.neg (fun k hk=>by
    rcases List.mem_cons.1 hk with rfl|hk
    ·exact .inl (by simp)
    ·exact(hr.own k hk).elim (fun h=>.inl (by simp[h])) (fun h=>.inr (Nat.le_trans m1.size h)))
   rw[show dV (-n) c=-V by rw[hV];unfold dV;rw[Int.neg_mul]] at hx
   exact⟨rfl,hx⟩
end Go.Proofs.YtcpjclakdpjjfaaGreatDoor
namespace Go.Proofs.YtcpjclakdpjjfaaGreatDoor
open Go.RowKit Wd Dg
theorem QtR.of {w w':World} {bq:Nat} {bl:List Nat} {V V':Int} {f:Value} (h:QtR w bq bl V f w') (e:V=V'):QtR w bq bl V' f w':=e▸h
theorem QDec.qtr {w w0 w1:World} {bq:Nat} {V:Int} {f:Value} {bl:List Nat} {b:Nat} {c n:Int} {u:Value} (m0:Mod [bq] w0 w) (k:QDec w bq V f bl b c n u w1) (lo:19≤bq) {w2:World} {c' n':Int} {u':Value} (hr:IntRes w1 b u (some c') n' u' w2) (db:DB n' c'):QtR w0 bq bl (dV n' c') f w2:=by
 obtain⟨v,s,st,hd⟩:=k.hd
 have hoff:bq∉b::sb u:=QOk.off (w:=w1) (v:=v) (s:=s) (V:=V) (.inr ⟨b,c,n,u,rfl,rfl,k.ia,k.db,k.v⟩) hd
 refine QtR.dec (hd.mod hr.mod hoff) lo ?_ hr.ia db (fun j hj=>?_)
 ·have m1:Mod (bq::bl) w0 w1:=(m0.mono (fun x hx=>.inl (by simp at hx;simp[hx]))).trans (k.mod.mono (fun x hx=>.inl (by simp at hx;simp[hx])))
  exact m1.step hr.mod (fun x hx=>(k.own x hx).elim (fun h=>.inl (by simp[h])) (fun h=>.inr (Nat.le_trans m0.size h)))
 ·have hj2:j∈b::sb u∨w1.heap.size≤j:=by
   rcases List.mem_cons.1 hj with rfl|hj
   ·exact .inl (by simp)
   ·exact(hr.own j hj).imp (fun h=>by simp[h]) id
  rcases hj2 with h|h
  ·exact(k.own j h).imp id (fun h=>Nat.le_trans m0.size h)
  ·exact .inr (Nat.le_trans m0.size (Nat.le_trans k.mod.size h))
theorem QtR.drewN {w w':World} {bq:Nat} {bl:List Nat} {V:Int} {f:Value} (h:QtR w bq bl V f w') (k:Nat):QtR w bq bl V f (w'.drewN k):=by
 obtain⟨bl',h1,h2,h3⟩:=h
 exact⟨bl',h1.mod ((Mod.refl [] w').drewN k) (by simp) (by simp),h2.drewN k,h3⟩
theorem q_mul (bq : Nat) (V y : Int) (f : Value) (bl : List Nat) (w : World) (he : Env2 w) (h : Qy w bq V f bl) (hy : i64 y) (hB : VB (V * y)) : Calls Tryz.prog 50 #[.pointer (some ⟨bq, 0, none⟩), .int .i64 y] w fun e w' => (∃ ok, e = .returned (.bool ok)) ∧ QtR w bq bl (V * y) f w' := by
  obtain ⟨v, s, d, st, hd, hq⟩ := h.q
  have lo := h.lo
  have f2 := hd.free
  have hd1 := hd.set 3 (.string ⟨#[]⟩)
  have c3 := hd.cell (i := 3) (v := st) rfl
  have hqn := hq.off hd
  have m1 : Mod [bq] w (w.setCell ⟨bq, 3, none⟩ (.string ⟨#[]⟩)) := (Mod.refl [bq] w).setCell _ (.inl (by simp))
  have hq1 := hq.mod m1 (fun k hk hm => hqn (by rw [← List.mem_singleton.1 hm]; exact hk))
  have he1 := he.mod m1 (by simp; exact lo)
  have HW := Lh (Aj hd1 (Aj m1 (Aj hq1 he1)))
  clear hd hq hd1 m1 hq1 hqn h he he1
  go_enter Tryz.func50, Tryz.ntmps50
  go_upto_region 2 with fail
  obtain ⟨hd, m1, hq, he⟩ := HW.out
  clear f2 c3 HW
  generalize w.setCell ⟨bq, 3, none⟩ (.string ⟨#[]⟩) = W at *
  have hd' : Hd W bq 70 (qc v s d (.string ⟨#[]⟩) f) := hd
  have c0 := hd'.cell (i := 0) (v := .int .i64 v) rfl
  have c2 := hd'.cell (i := 2) (v := d) rfl
  have REST : ∀ W2, Mod [bq] w W2 → Env2 W2 → Qy W2 bq V f bl → Calls Tryz.prog 92 #[.pointer (some ⟨bq, 0, none⟩)] W2 (ToDecRet W2 bq V f bl) ∧ ∀ b c n u w3, QDec W2 bq V f bl b c n u w3 → Calls Tryz.prog 81 #[.int .i64 y, .int .i32 0] w3 (NewRet w3 (some 0) y) ∧ ∀ b2 u2 w4, NewRes w3 (some 0) y b2 u2 w4 → w4.cell? ⟨bq, 2, none⟩ = some (.pointer (some ⟨b, 0, none⟩)) ∧
      ∀ k, Calls Tryz.prog 93 #[.pointer (some ⟨b, 0, none⟩), .pointer (some ⟨b, 0, none⟩), .pointer (some ⟨b2, 0, none⟩)] (w4.drewN k) fun e w' => e = .returned (.pointer (some ⟨b, 0, none⟩)) ∧ w'.cell? ⟨bq, 2, none⟩ = some (.pointer (some ⟨b, 0, none⟩)) ∧ (∃ c' n' u', IA w' b (some c') n' u') ∧ QtR w bq bl (V * y) f w' := by
    intro W2 m2 e2 h2
    refine ⟨q_toDec bq V f bl W2 e2.env h2, fun b c n u w3 k => ?_⟩
    have e3 : Env2 w3 := e2.mod k.mod (by simp; exact lo)
    refine ⟨newDec_calls y 0 w3 e3.env.big hy.1 hy.2, fun b2 u2 w4 hr => ?_⟩
    obtain ⟨v5, s5, st5, hd5⟩ := k.hd
    have hd6 := hd5.mod hr.mod (by simp)
    have hoff : bq ∉ b :: sb u := QOk.off (w := w3) (v := v5) (s := s5) (V := V) (.inr ⟨b, c, n, u, rfl, rfl, k.ia, k.db, k.v⟩) hd5
    refine ⟨hd6.cell rfl, fun j => ?_⟩
    have hap := hr.apart k.ia
    have hyB : y.natAbs < B ^ 39 := by
      unfold i64 at hy
      have h : (9223372036854775808 : Nat) < B ^ 39 := by
        rw [B_eq]
        decide +kernel
      omega
    refine (dec_mul b b2 c 0 n y u u2 (w4.drewN j) ((e3.new hr.mod).drewN j).env (hap.2.2.drewN j) (hr.ia.drewN j) hap.1 (by have := k.db.lo; omega) (by have := k.db.hi; omega) (by decide) (by decide) k.db.big hyB).mono ?_
    rintro e w' ⟨rfl, u', hr'⟩
    rw [Int.add_zero] at hr'
    have hv : dV (n * y) c = V * y := by rw [k.v]; unfold dV; rw [Int.mul_right_comm]
    have hr2 : IntRes w3 b u (some c) (n * y) u' w' := ⟨hr'.ia, ((hr.mod.mono (by simp)).drewN j).trans hr'.mod, fun q hq => (hr'.own q hq).imp id (fun h => Nat.le_trans hr.mod.size h)⟩
    refine ⟨rfl, ((hd6.mod ((Mod.refl [] w4).drewN j) (by simp)).mod hr'.mod hoff).cell rfl, ⟨_, _, _, hr'.ia⟩, (QDec.qtr m2 k lo hr2 (VB.db (by rw [hv]; exact hB) k.db.lo k.db.hi)).of hv⟩
  have HREST := Lh REST
  clear REST
  rcases hq with ⟨rfl, rfl, hv, h1, h2, hV⟩ | ⟨b0, c0', n0, u0, rfl, hbl, ia, db, hV⟩
  · have AM := Lh (amtMul_calls bq v s y (.pointer none) (.string ⟨#[]⟩) f W hd' hv hy (by omega) (by omega))
    have HH := Lh (Aj m1 (Aj he (Aj hv (Aj h1 (Aj h2 (Aj hV (Aj lo hB)))))))
    clear hd hd' m1 he hv h1 h2 hV lo hB hy
    go_wp2_with fail
    refine AM.out.mono ?_
    rintro e w5 ⟨m5, hr⟩
    obtain ⟨m1, he, hv, h1, h2, hV, lo, hB⟩ := HH.out
    have m15 := m1.trans m5
    rcases hr with ⟨rfl, v', s', hd5, hv', hs', hvv⟩ | ⟨rfl, hd5⟩
    · have HF := Lh ((QtR.amt (bl := []) hd5 lo m15 hv' (by omega) (by omega)).of (show v' * sc s' = V * y by rw [hvv, hV]))
      clear m1 he hv h1 h2 hV lo hB m15 hd5 hv' hs' hvv m5
      go_wp2_with fail
      go_ret
      exact ⟨⟨_, rfl⟩, HF.out⟩
    · have e5 := he.mod m5 (by simp; exact lo)
      have q5 : Qy w5 bq V f [] := ⟨⟨v, s, _, _, hd5, .inl ⟨rfl, rfl, hv, h1, h2, hV⟩⟩, lo⟩
      have g2 := hd5.cell (i := 2) (v := .pointer none) rfl
      have HT := Lh (Aj m15 (Aj e5 q5))
      clear m1 he hv h1 h2 hV lo hB m15 e5 q5 m5 hd5
      obtain ⟨RT, RF⟩ := HREST.out w5 HT.out.1 HT.out.2.1 HT.out.2.2
      have R1 := Lh RT
      have R2 := Lh RF
      clear RT RF
      go_wp2_with fail
      refine R1.out.mono ?_
      rintro e w6 ⟨b, c, n, u, rfl, k⟩
      obtain ⟨ND, NF⟩ := R2.out b c n u w6 k
      have R3 := Lh ND
      have R4 := Lh NF
      clear ND NF k
      go_wp2_with fail
      refine R3.out.mono ?_
      rintro e w7 ⟨b2, u2, rfl, hr⟩
      obtain ⟨g2, MU⟩ := R4.out b2 u2 w7 hr
      have R5 := Lh MU
      clear MU hr
      go_wp2_with fail
      go_region_held3 (fun w' => w'.cell? ⟨bq, 2, none⟩ = some (.pointer (some ⟨b, 0, none⟩))) (go_keep)
        (first
          | (go_at_call 93; refine (R5.out _).mono ?_; rintro e w8 ⟨rfl, g3, ⟨c', n', u', hia⟩, hq⟩; have R6 := Lh hq; have R7 := Lh hia; clear hq hia)
          | (go_at_call 70; refine (dec_unscaledBig b _).mono ?_; rintro e w9 ⟨rfl, rfl⟩)
                | (go_at_call 94; refine (int_isInt64 b _ _ _ _ R7.out).mono ?_; rintro e w10 ⟨⟨ok, rfl⟩, rfl⟩))
      all_goals
        go_wp2_with fail
        go_ret
        exact ⟨⟨_, rfl⟩, R6.out⟩
  · have p1 := dptr_nil' b0
    have q5 : Qy W bq V f bl := ⟨⟨v, s, _, _, hd', .inr ⟨b0, c0', n0, u0, rfl, hbl, ia, db, hV⟩⟩, lo⟩
    have HT := Lh (Aj m1 (Aj he q5))
    clear hd hd' m1 he ia db hV lo hB hy q5 hbl
    obtain ⟨RT, RF⟩ := HREST.out W HT.out.1 HT.out.2.1 HT.out.2.2
    have R1 := Lh RT
    have R2 := Lh RF
    clear RT RF
    go_wp2_with fail
    refine R1.out.mono ?_
    rintro e w6 ⟨b, c, n, u, rfl, k⟩
    obtain ⟨ND, NF⟩ := R2.out b c n u w6 k
    have R3 := Lh ND
    have R4 := Lh NF
    clear ND NF k
    go_wp2_with fail
    refine R3.out.mono ?_
    rintro e w7 ⟨b2, u2, rfl, hr⟩
    obtain ⟨g2, MU⟩ := R4.out b2 u2 w7 hr
    have R5 := Lh MU
    clear MU hr
    go_wp2_with fail
    go_region_held3 (fun w' => w'.cell? ⟨bq, 2, none⟩ = some (.pointer (some ⟨b, 0, none⟩))) (go_keep)
      (first
        | (go_at_call 93; refine (R5.out _).mono ?_; rintro e w8 ⟨rfl, g3, ⟨c', n', u', hia⟩, hq⟩; have R6 := Lh hq; have R7 := Lh hia; clear hq hia)
        | (go_at_call 70; refine (dec_unscaledBig b _).mono ?_; rintro e w9 ⟨rfl, rfl⟩)
            | (go_at_call 94; refine (int_isInt64 b _ _ _ _ R7.out).mono ?_; rintro e w10 ⟨⟨ok, rfl⟩, rfl⟩))
    all_goals
      go_wp2_with fail
      go_ret
      exact ⟨⟨_, rfl⟩, R6.out⟩
end Go.Proofs.YtcpjclakdpjjfaaGreatDoor
namespace Go.Proofs.YtcpjclakdpjjfaaGreatDoor
open Go.RowKit Wd Dg
theorem q_roundUp (bq:Nat) (V c:Int) (f:Value) (bl:List Nat) (w:World) (he:Env2 w) (h:Qy w bq V f bl) (hB:VB V) (hc1:-9≤c) (hc2:c≤18):Calls Tryz.prog 44 #[.pointer (some ⟨bq,0,none⟩),.int .i32 c] w fun e w'=>e=.returned (.bool (decide (rup10 V c=V)))∧QtR w bq bl (rup10 V c) f w':=by
 obtain⟨v,s,d,st,hd,hq⟩:=h.q
 have lo:=h.lo
 have fr:=hd.free
 have c0:=hd.cell (i:=0) (v:=.int .i64 v) rfl
 have c1:=hd.cell (i:=1) (v:=.int .i32 s) rfl
 have c2:=hd.cell (i:=2) (v:=d) rfl
 have c3:=hd.cell (i:=3) (v:=st) rfl
 have hqn:=hq.off hd
 have hd1:Hd (w.setCell ⟨bq,3,none⟩ (.string ⟨#[]⟩)) bq 70 (qc v s d (.string ⟨#[]⟩) f):=hd.set 3 (.string ⟨#[]⟩)
 have m1:Mod [bq] w (w.setCell ⟨bq,3,none⟩ (.string ⟨#[]⟩)):=(Mod.refl [bq] w).setCell _ (.inl (by simp))
 have hq1:=hq.mod m1 (fun k hk hm=>hqn (by rw[←List.mem_singleton.1 hm];exact hk))
 have he1:=he.mod m1 (by simp;exact lo)
 have g0:=hd1.cell (i:=0) (v:=.int .i64 v) rfl
 have g1:=hd1.cell (i:=1) (v:=.int .i32 s) rfl
 have g2:=hd1.cell (i:=2) (v:=d) rfl
 rcases hq with ⟨rfl,rfl,hv,h1,h2,hV⟩|⟨b,c',n,u,rfl,hbl,ia,db,hV⟩
 ·by_cases hle:c≤s
  ·have t1:decide (c≤s)=true:=by simpa using hle
   have e1:rup10 V c=V:=by rw[hV];exact rup_coarse (k:=(s-c).toNat) (by omega) (by omega)
   have HF:=Lh (Aj e1 ((QtR.amt (w:=w) (bl:=[]) hd lo (Mod.refl _ _) hv h1 h2).of (show v*sc s=rup10 V c by rw[e1,hV])))
   clear h he hd hd1 m1 hq1 he1 hv h1 h2 hV hB hc1 hc2 e1 hle lo hqn
   go_enter Tryz.func44,Tryz.ntmps44
   go_wp2_with fail
   go_ret
   exact⟨by rw[decide_eq_true HF.out.1];rfl,HF.out.2⟩
  ·have t1:decide (c≤s)=false:=by simpa using hle
   have AC:=Lh (amtAsScale v s c (w.setCell ⟨bq,3,none⟩ (.string ⟨#[]⟩)) hv (by omega) (by omega) (by omega) (by omega))
   have HH:=Lh (Aj hd1 (Aj m1 (Aj hv (Aj h1 (Aj h2 (Aj hV (Aj lo (Aj hc1 (Aj hc2 hle)))))))))
   clear h he hd hd1 m1 hq1 he1 hv h1 h2 hV hB hc1 hc2 hle lo hqn
   unfold amt at AC
   go_enter Tryz.func44,Tryz.ntmps44
   go_wp2_with fail
   refine AC.out.mono ?_
   rintro e w2 ⟨m2,hr⟩
   obtain⟨hd1,m1,hv,h1,h2,hV,lo,hc1,hc2,hle⟩:=HH.out
   rcases hr with ⟨hle2,-⟩|⟨k,hk,hk0,rfl⟩
   ·exact absurd hle2 (by omega)
   ·have hd2:=hd1.mod m2 (by simp)
    obtain⟨U,hU⟩:∃U,U=up v (10^k):=⟨_,rfl⟩
    obtain⟨F,hF⟩:∃F,F=(!nsF v k):=⟨_,rfl⟩
    rw[←hU,←hF]
    have hd3:=hd2.mod ((Mod.refl [] w2).alloc (.cells #[.int .i64 U,.int .i32 c] 64)) (by simp)
    have a0:=hd3.cell (i:=0) (v:=.int .i64 v) rfl
    have a1:=hd3.cell (i:=1) (v:=.int .i32 s) rfl
    have a2:=hd3.free
    have hd4:=hd3.set 0 (.int .i64 U)
    have a3:=hd4.cell (i:=1) (v:=.int .i32 s) rfl
    have a4:=hd4.free
    have hd5:=hd4.set 1 (.int .i32 c)
    have e1:rup10 V c=U*sc c:=by rw[hV,hU,rup_fine hk (by omega)]
    have HF:=Lh (Aj (show F=decide (rup10 V c=V) by rw[hF,hV];exact nsF_rup hk (by omega)) ((QtR.amt (w:=w) (bl:=[]) (s:=c) hd5 lo ((((m1.trans (m2.mono (by simp))).alloc _).setCell _ (.inl (by simp))).setCell _ (.inl (by simp))) (by rw[hU];exact i64_up (Nat.pow_pos (by decide)) hv) (by omega) (by omega)).of e1.symm))
    clear hd1 m1 hv h1 h2 hV lo hc1 hc2 hle hk hk0 hU hF hd2 hd3 hd4 hd5 e1 m2
    unfold amt
    go_wp2_with fail
    go_ret
    exact⟨by rw[←HF.out.1];rfl,HF.out.2⟩
 ·have p1:=dptr_nil b
  have ia1:=ia.mod m1 (by simp;exact fun hm=>hqn (by rw[hbl];simp[hm])) (fun k hk hm=>hqn (by rw[←List.mem_singleton.1 hm,hbl];simp[hk]))
  have AC:=Lh (infAsScale_calls b c' n c u _ he1.env ia1 db (by omega) (by omega))
  have HH:=Lh (Aj hd1 (Aj m1 (Aj db (Aj hV (Aj hB (Aj lo (Aj hc1 hc2)))))))
  clear h he hd hd1 m1 hq1 he1 ia ia1 db hV hB hc1 hc2 lo hqn hbl
  go_enter Tryz.func44,Tryz.ntmps44
  go_wp2_with fail
  refine AC.out.mono ?_
  rintro e w2 ⟨b2,u2,rfl,hr⟩
  obtain⟨hd1,m1,db,hV,hB,lo,hc1,hc2⟩:=HH.out
  have e1:=rnd_rup (n:=n) db.lo db.hi (show -170≤c by omega) (by omega)
  have hrr:rnd n c' (-c)=up V (sc c):=by
   rw[←hV] at e1
   unfold dV at e1
   rw[Int.neg_neg] at e1
   exact mul_sc_inj e1
  have hdb:DB (rnd n c' (-c)) (-c):=⟨by rw[hrr];exact hB.up hc1,by omega,by omega⟩
  have hd2:=hd1.mod hr.mod (by simp)
  have hd3:=hd2.mod ((Mod.refl [] w2).alloc (.cells #[.pointer (some ⟨b2,0,none⟩)] 67)) (by simp)
  have a0:=hd3.cell (i:=2) (v:=.pointer (some ⟨b,0,none⟩)) rfl
  have a2:=hd3.free
  have hd4:=hd3.set 2 (.pointer (some ⟨b2,0,none⟩))
  have m4:Mod [bq] w2 ((w2.alloc (.cells #[.pointer (some ⟨b2,0,none⟩)] 67)).setCell ⟨bq,2,none⟩ (.pointer (some ⟨b2,0,none⟩))):=((Mod.refl [bq] w2).alloc _).setCell _ (.inl (by simp))
  have hlt:=hd1.lt
  have ia4:=hr.ia.mod m4 (by have:=hr.own.1;simp;omega) (fun k hk=>by have:=hr.own.2 k hk;simp;omega)
  have HF:=Lh (Aj (show (cmpZI (dV (rnd n c' (-c)) (-c)) (dV n c')==0)=decide (rup10 V c=V) by rw[cmpZI_beq,e1,←hV]) ((QtR.dec (w:=w) (bl:=bl) hd4 lo (((m1.trans (hr.mod.mono (by simp))).trans m4).mono (fun x hx=>.inl (by simp at hx;simp[hx]))) ia4 hdb (fun k hk=>.inr (by
   have hs:=m1.size
   rcases List.mem_cons.1 hk with rfl|hk
   ·exact Nat.le_trans hs hr.own.1
   ·exact Nat.le_trans hs (hr.own.2 k hk)))).of (show dV (rnd n c' (-c)) (-c)=rup10 V c by rw[e1,←hV])))
  generalize (cmpZI (dV (rnd n c' (-c)) (-c)) (dV n c')==0)=F at*
  clear hd1 m1 db hV hB lo hc1 hc2 e1 hrr hdb hd2 hd3 hd4 m4 hlt ia4 hr AC
  go_wp2_with fail
  go_ret
  exact⟨by rw[←HF.out.1];rfl,HF.out.2⟩
end Go.Proofs.YtcpjclakdpjjfaaGreatDoor
