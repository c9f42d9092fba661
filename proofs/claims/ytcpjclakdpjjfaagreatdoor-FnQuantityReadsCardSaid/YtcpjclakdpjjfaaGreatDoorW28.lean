/- Amounts of 64 bits: the canonical digits (resource/amount.go: AsCanonicalBytes). Amounts of 64 bits: products; AsScaledInt64, the digits by 1024 (resource/amount.go). -/
import Derived.Test.YtcpjclakdpjjfaaGreatDoorW26
import Derived.Test.YtcpjclakdpjjfaaGreatDoorW23
import Derived.Test.YtcpjclakdpjjfaaGreatDoorW27
namespace Go.Proofs.YtcpjclakdpjjfaaGreatDoor
open Go.RowKit Wd Dg
theorem tmod3_cases (x : Int) : (x % 3 = 1 ∧ (x.tmod 3 = 1 ∨ x.tmod 3 = -2)) ∨ (x % 3 = 2 ∧ (x.tmod 3 = 2 ∨ x.tmod 3 = -1)) ∨ (x % 3 = 0 ∧ x.tmod 3 = 0) := by
  rcases Int.lt_or_le x 0 with h | h
  · obtain ⟨m, rfl⟩ : ∃ m : Nat, x = -(m : Int) := ⟨x.natAbs, by omega⟩
    rw [Int.neg_tmod, show ((m : Int).tmod 3) = ((m % 3 : Nat) : Int) from rfl]
    omega
  · obtain ⟨m, rfl⟩ : ∃ m : Nat, x = (m : Int) := ⟨x.natAbs, by omega⟩
    rw [show ((m : Int).tmod 3) = ((m % 3 : Nat) : Int) from rfl]
    omega
theorem i64_B7 {v : Int} (hv : i64 v) : v.natAbs < B ^ 20 := by
  unfold i64 at hv
  have h : (9223372036854775808 : Nat) < B ^ 20 := by rw [B_eq]; decide +kernel
  omega
theorem ex_strip (k : Nat) : ∀ v : Int, v.natAbs ≤ k → v ≠ 0 → ∃ (r : Int) (t : Nat), v = r * ((10 ^ t : Nat) : Int) ∧ r % 10 ≠ 0 ∧ t ≤ k := by
  induction k with
  | zero => intro v h h0; omega
  | succ k ih =>
    intro v h h0
    by_cases h10 : v % 10 = 0
    · obtain ⟨m, hm⟩ : ∃ m, v = m * 10 := ⟨v / 10, by omega⟩
      obtain ⟨r, t, h1, h2, h3⟩ := ih m (by omega) (by omega)
      exact ⟨r, t + 1, by rw [hm, h1, Nat.pow_succ, Int.natCast_mul, Int.mul_assoc]; rfl, h2, by omega⟩
    · exact ⟨v, 0, by simp, h10, by omega⟩
/-- The canonical number is not much greater than the amount. -/
theorem cn_small {v s M e : Int} (hs : -390 ≤ s) (h0 : v ≠ 0) (h : Cn (v * sc s) M e) : M.natAbs ≤ v.natAbs * 100 := by
  obtain ⟨r, t, h1, h2, -⟩ := ex_strip v.natAbs v (Nat.le_refl _) h0
  obtain ⟨j, hj⟩ : ∃ j : Nat, (j : Int) = (s + t) % 3 := ⟨((s + t) % 3).toNat, by omega⟩
  have hc := cn_of (V := v * sc s) (a := r) (e := s + t) (j := j) (by
    rw [sc_add (by omega), h1, Int.natCast_mul, Int.mul_assoc, Int.mul_comm (sc s : Int)]) h2 (by omega) (by omega) (by omega)
  have hu := (h.unique hc).1
  have e10 : (r * 10 ^ j) = r * ((10 ^ j : Nat) : Int) := by simp
  rw [hu, e10]
  exact abs_mul_le h1 (Nat.pow_pos (by decide)) (by omega)
theorem i64_cn {v s : Int} (hv : i64 v) (hs : -390 ≤ s) (h0 : v ≠ 0) : ∀ M e, Cn (v * sc s) M e → M.natAbs < B ^ 8 := fun M e h => by
  have h1 := cn_small hs h0 h
  unfold i64 at hv
  have h2 : (9223372036854775808 * 100 : Nat) < B ^ 8 := by rw [B_eq]; decide +kernel
  omega
theorem cn_amt {v s r e0 : Int} {t j : Nat} (hr : v = r * ((10 ^ t : Nat) : Int)) (h10 : r % 10 ≠ 0) (hs : -400 ≤ s - 2) (he : e0 = s + t) (hj : j ≤ 2) (h3 : (e0 - j) % 3 = 0) : Cn (v * sc s) (r * 10 ^ j) (e0 - j) :=
  cn_of (V := v * sc s) (a := r) (e := e0) (j := j) (by
    rw [he, sc_add (by omega), hr, Int.natCast_mul, Int.mul_assoc, Int.mul_comm (sc s : Int)]) h10 hj h3 (by omega)
set_option maxRecDepth 10000 in
set_option maxHeartbeats 8000000 in
theorem amtCanon (v s : Int) (w : World) (he : Env2 w) (hv : i64 v) (h0 : v ≠ 0) (h1 : -250 ≤ s) (h2 : s ≤ 250) (o : Value) (ho : o = .slice none 0 0) :
    Calls Tryz.prog 85 #[amt v s, o] w (CnRet (v * sc s) w) := by
  have ma : Mod [] w (w.alloc (.cells #[.int .i64 v, .int .i32 s] 64)) := (Mod.refl [] w).alloc _
  have he1 := he.new ma
  have hbx := Hd.new w 64 #[.int .i64 v, .int .i32 s]
  have RF := Lib.hid (rmI_calls v (w.alloc (.cells #[.int .i64 v, .int .i32 s] 64)) hv)
  have FB := Lib.hid (fun (w1 : World) (m : Mod [] (w.alloc (.cells #[.int .i64 v, .int .i32 s] 64)) w1) => amtAsDec v s w1 (he1.new m).env.big hv (by omega) (by omega))
  have FC := Lib.hid (fun (w1 w2 : World) (b : Nat) (u : Value) (m : Mod [] w w1) (k : NewRes w1 (some (-s)) v b u w2) => infCanon_calls b (-s) v u w2 (k.env (he.new m).env) k.ia h0 (by omega) (by omega) (i64_B7 hv) (by rw [Int.neg_neg]; exact i64_cn hv (by omega) h0) o ho)
  have H0 := Lib.hid (And.intro he (And.intro hv (And.intro h0 (And.intro h1 (And.intro h2 (And.intro ho (And.intro ma hbx)))))))
  clear he hv h0 ho ma he1 hbx
  unfold amt
  go_enter Tryz.func85, Tryz.ntmps85
  go_wp2_with fail
  refine RF.out.mono ?_
  rintro e w1 ⟨r, t, rfl, rfl, hr, h10, ht, hr64⟩
  obtain ⟨e0, he0⟩ : ∃ e0, e0 = s + (t : Int) := ⟨_, rfl⟩
  have TE := Lib.hid <| show wrap32 (s + (t : Int)) = e0 by rw [he0]; unfold wrap32; omega
  have hx : -250 ≤ e0 ∧ e0 ≤ 320 := by omega
  have HR := Lib.hid (And.intro hr (And.intro (h10 H0.out.2.2.1) (And.intro he0 (And.intro hx hr64))))
  clear hr h10 he0 ht hx RF h1 h2
  have te := TE.out
  rcases tmod3_cases e0 with ⟨h3, hq⟩ | ⟨h3, hq⟩ | ⟨h3, hq⟩
  · rcases hq with hq | hq
    · have tq : e0.tmod 3 = 1 := hq
      have H3 := Lib.hid h3
      clear hq h3
      go_wp2_with fail
      refine (int64MultiplyScale10_calls r _ HR.out.2.2.2.2).mono ?_
      rintro e w2 ⟨cc, ok, rfl, ⟨m, rfl⟩, hok, hc64⟩
      have mw : Mod [] (w.alloc (.cells #[.int .i64 v, .int .i32 s] 64)) ((w.alloc (.cells #[.int .i64 v, .int .i32 s] 64)).drewN m) := (Mod.refl [] _).drewN m
      have mw2 := H0.out.2.2.2.2.2.2.1.trans mw
      cases ok
      · clear hok
        have hb := H0.out.2.2.2.2.2.2.2.mod mw (by simp)
        have c0 := hb.cell (i := 0) (v := .int .i64 v) rfl
        have c1 := hb.cell (i := 1) (v := .int .i32 s) rfl
        have F1 := Lib.hid (FB.out _ mw)
        have M2 := Lib.hid mw2
        clear hb mw mw2
        go_wp2_with fail
        refine F1.out.mono ?_
        rintro e w3 ⟨b, u, rfl, hnr⟩
        have F2 := Lib.hid (FC.out _ w3 b u M2.out hnr)
        have M3 := Lib.hid (M2.out.trans hnr.mod)
        clear hnr
        go_wp2_with fail
        refine F2.out.mono ?_
        rintro e w4 ⟨v5, M, ex, rfl, hcn, hbs, hm4, hex⟩
        have HF := Lib.hid (And.intro hcn (And.intro hbs (And.intro hm4 hex)))
        clear hcn hbs hm4 hex
        go_wp2_with fail
        go_ret2
        obtain ⟨k1, k2, k3, k4⟩ := HF.out
        rw [Int.neg_neg] at k1
        exact ⟨v5, M, ex, rfl, k1, k2.base M3.out.size, M3.out.trans k3, k4⟩
      · have hcc := hok rfl
        have AP := Lib.hid (appendInt_calls cc _ (H0.out.1.new mw2) hc64 o H0.out.2.2.2.2.2.1)
        obtain ⟨e1, he1⟩ : ∃ e1, e1 = e0 - 1 := ⟨_, rfl⟩
        have hx := HR.out.2.2.2.1
        have TF := Lib.hid <| show wrap32 (e0 - 1) = e1 by rw [he1]; unfold wrap32; omega
        have h1 := H0.out.2.2.2.1
        have hcn : Cn (v * sc s) (r * 10 ^ 1) (e0 - ((1 : Nat) : Int)) := cn_amt HR.out.1 HR.out.2.1 (by omega) HR.out.2.2.1 (by decide) (by have := H3.out; omega)
        have hcn2 : Cn (v * sc s) cc e1 := by
          have q1 : cc = r * 10 ^ 1 := by rw [hcc]; rfl
          have q2 : e1 = e0 - ((1 : Nat) : Int) := by rw [he1]; rfl
          rw [q1, q2]; exact hcn
        have HE := Lib.hid (And.intro hcn2 (And.intro (show -800 ≤ e1 ∧ e1 ≤ 5000 by omega) mw2))
        clear hcn hcn2 he1 hx h1 hcc hok mw mw2
        have tf := TF.out
        go_wp2_with fail
        refine AP.out.mono ?_
        rintro e w3 ⟨v5, rfl, hbs, hm3⟩
        have HB := Lib.hid (And.intro hbs hm3)
        clear hbs hm3
        go_wp2_with fail
        go_ret2
        exact ⟨v5, cc, e1, by first | rfl | rw [tf], HE.out.1, HB.out.1.base HE.out.2.2.size, HE.out.2.2.trans HB.out.2, HE.out.2.1⟩
    · have tq : e0.tmod 3 = -2 := hq
      have H3 := Lib.hid h3
      clear hq h3
      go_wp2_with fail
      refine (int64MultiplyScale10_calls r _ HR.out.2.2.2.2).mono ?_
      rintro e w2 ⟨cc, ok, rfl, ⟨m, rfl⟩, hok, hc64⟩
      have mw : Mod [] (w.alloc (.cells #[.int .i64 v, .int .i32 s] 64)) ((w.alloc (.cells #[.int .i64 v, .int .i32 s] 64)).drewN m) := (Mod.refl [] _).drewN m
      have mw2 := H0.out.2.2.2.2.2.2.1.trans mw
      cases ok
      · clear hok
        have hb := H0.out.2.2.2.2.2.2.2.mod mw (by simp)
        have c0 := hb.cell (i := 0) (v := .int .i64 v) rfl
        have c1 := hb.cell (i := 1) (v := .int .i32 s) rfl
        have F1 := Lib.hid (FB.out _ mw)
        have M2 := Lib.hid mw2
        clear hb mw mw2
        go_wp2_with fail
        refine F1.out.mono ?_
        rintro e w3 ⟨b, u, rfl, hnr⟩
        have F2 := Lib.hid (FC.out _ w3 b u M2.out hnr)
        have M3 := Lib.hid (M2.out.trans hnr.mod)
        clear hnr
        go_wp2_with fail
        refine F2.out.mono ?_
        rintro e w4 ⟨v5, M, ex, rfl, hcn, hbs, hm4, hex⟩
        have HF := Lib.hid (And.intro hcn (And.intro hbs (And.intro hm4 hex)))
        clear hcn hbs hm4 hex
        go_wp2_with fail
        go_ret2
        obtain ⟨k1, k2, k3, k4⟩ := HF.out
        rw [Int.neg_neg] at k1
        exact ⟨v5, M, ex, rfl, k1, k2.base M3.out.size, M3.out.trans k3, k4⟩
      · have hcc := hok rfl
        have AP := Lib.hid (appendInt_calls cc _ (H0.out.1.new mw2) hc64 o H0.out.2.2.2.2.2.1)
        obtain ⟨e1, he1⟩ : ∃ e1, e1 = e0 - 1 := ⟨_, rfl⟩
        have hx := HR.out.2.2.2.1
        have TF := Lib.hid <| show wrap32 (e0 - 1) = e1 by rw [he1]; unfold wrap32; omega
        have h1 := H0.out.2.2.2.1
        have hcn : Cn (v * sc s) (r * 10 ^ 1) (e0 - ((1 : Nat) : Int)) := cn_amt HR.out.1 HR.out.2.1 (by omega) HR.out.2.2.1 (by decide) (by have := H3.out; omega)
        have hcn2 : Cn (v * sc s) cc e1 := by
          have q1 : cc = r * 10 ^ 1 := by rw [hcc]; rfl
          have q2 : e1 = e0 - ((1 : Nat) : Int) := by rw [he1]; rfl
          rw [q1, q2]; exact hcn
        have HE := Lib.hid (And.intro hcn2 (And.intro (show -800 ≤ e1 ∧ e1 ≤ 5000 by omega) mw2))
        clear hcn hcn2 he1 hx h1 hcc hok mw mw2
        have tf := TF.out
        go_wp2_with fail
        refine AP.out.mono ?_
        rintro e w3 ⟨v5, rfl, hbs, hm3⟩
        have HB := Lib.hid (And.intro hbs hm3)
        clear hbs hm3
        go_wp2_with fail
        go_ret2
        exact ⟨v5, cc, e1, by first | rfl | rw [tf], HE.out.1, HB.out.1.base HE.out.2.2.size, HE.out.2.2.trans HB.out.2, HE.out.2.1⟩
  · rcases hq with hq | hq
    · have tq : e0.tmod 3 = 2 := hq
      have H3 := Lib.hid h3
      clear hq h3
      go_wp2_with fail
      refine (int64MultiplyScale100_calls r _ HR.out.2.2.2.2).mono ?_
      rintro e w2 ⟨cc, ok, rfl, ⟨m, rfl⟩, hok, hc64⟩
      have mw : Mod [] (w.alloc (.cells #[.int .i64 v, .int .i32 s] 64)) ((w.alloc (.cells #[.int .i64 v, .int .i32 s] 64)).drewN m) := (Mod.refl [] _).drewN m
      have mw2 := H0.out.2.2.2.2.2.2.1.trans mw
      cases ok
      · clear hok
        have hb := H0.out.2.2.2.2.2.2.2.mod mw (by simp)
        have c0 := hb.cell (i := 0) (v := .int .i64 v) rfl
        have c1 := hb.cell (i := 1) (v := .int .i32 s) rfl
        have F1 := Lib.hid (FB.out _ mw)
        have M2 := Lib.hid mw2
        clear hb mw mw2
        go_wp2_with fail
        refine F1.out.mono ?_
        rintro e w3 ⟨b, u, rfl, hnr⟩
        have F2 := Lib.hid (FC.out _ w3 b u M2.out hnr)
        have M3 := Lib.hid (M2.out.trans hnr.mod)
        clear hnr
        go_wp2_with fail
        refine F2.out.mono ?_
        rintro e w4 ⟨v5, M, ex, rfl, hcn, hbs, hm4, hex⟩
        have HF := Lib.hid (And.intro hcn (And.intro hbs (And.intro hm4 hex)))
        clear hcn hbs hm4 hex
        go_wp2_with fail
        go_ret2
        obtain ⟨k1, k2, k3, k4⟩ := HF.out
        rw [Int.neg_neg] at k1
        exact ⟨v5, M, ex, rfl, k1, k2.base M3.out.size, M3.out.trans k3, k4⟩
      · have hcc := hok rfl
        have AP := Lib.hid (appendInt_calls cc _ (H0.out.1.new mw2) hc64 o H0.out.2.2.2.2.2.1)
        obtain ⟨e1, he1⟩ : ∃ e1, e1 = e0 - 2 := ⟨_, rfl⟩
        have hx := HR.out.2.2.2.1
        have TF := Lib.hid <| show wrap32 (e0 - 2) = e1 by rw [he1]; unfold wrap32; omega
        have h1 := H0.out.2.2.2.1
        have hcn : Cn (v * sc s) (r * 10 ^ 2) (e0 - ((2 : Nat) : Int)) := cn_amt HR.out.1 HR.out.2.1 (by omega) HR.out.2.2.1 (by decide) (by have := H3.out; omega)
        have hcn2 : Cn (v * sc s) cc e1 := by
          have q1 : cc = r * 10 ^ 2 := by rw [hcc]; rfl
          have q2 : e1 = e0 - ((2 : Nat) : Int) := by rw [he1]; rfl
          rw [q1, q2]; exact hcn
        have HE := Lib.hid (And.intro hcn2 (And.intro (show -800 ≤ e1 ∧ e1 ≤ 5000 by omega) mw2))
        clear hcn hcn2 he1 hx h1 hcc hok mw mw2
        have tf := TF.out
        go_wp2_with fail
        refine AP.out.mono ?_
        rintro e w3 ⟨v5, rfl, hbs, hm3⟩
        have HB := Lib.hid (And.intro hbs hm3)
        clear hbs hm3
        go_wp2_with fail
        go_ret2
        exact ⟨v5, cc, e1, by first | rfl | rw [tf], HE.out.1, HB.out.1.base HE.out.2.2.size, HE.out.2.2.trans HB.out.2, HE.out.2.1⟩
    · have tq : e0.tmod 3 = -1 := hq
      have H3 := Lib.hid h3
      clear hq h3
      go_wp2_with fail
      refine (int64MultiplyScale100_calls r _ HR.out.2.2.2.2).mono ?_
      rintro e w2 ⟨cc, ok, rfl, ⟨m, rfl⟩, hok, hc64⟩
      have mw : Mod [] (w.alloc (.cells #[.int .i64 v, .int .i32 s] 64)) ((w.alloc (.cells #[.int .i64 v, .int .i32 s] 64)).drewN m) := (Mod.refl [] _).drewN m
      have mw2 := H0.out.2.2.2.2.2.2.1.trans mw
      cases ok
      · clear hok
        have hb := H0.out.2.2.2.2.2.2.2.mod mw (by simp)
        have c0 := hb.cell (i := 0) (v := .int .i64 v) rfl
        have c1 := hb.cell (i := 1) (v := .int .i32 s) rfl
        have F1 := Lib.hid (FB.out _ mw)
        have M2 := Lib.hid mw2
        clear hb mw mw2
        go_wp2_with fail
        refine F1.out.mono ?_
        rintro e w3 ⟨b, u, rfl, hnr⟩
        have F2 := Lib.hid (FC.out _ w3 b u M2.out hnr)
        have M3 := Lib.hid (M2.out.trans hnr.mod)
        clear hnr
        go_wp2_with fail
        refine F2.out.mono ?_
        rintro e w4 ⟨v5, M, ex, rfl, hcn, hbs, hm4, hex⟩
        have HF := Lib.hid (And.intro hcn (And.intro hbs (And.intro hm4 hex)))
        clear hcn hbs hm4 hex
        go_wp2_with fail
        go_ret2
        obtain ⟨k1, k2, k3, k4⟩ := HF.out
        rw [Int.neg_neg] at k1
        exact ⟨v5, M, ex, rfl, k1, k2.base M3.out.size, M3.out.trans k3, k4⟩
      · have hcc := hok rfl
        have AP := Lib.hid (appendInt_calls cc _ (H0.out.1.new mw2) hc64 o H0.out.2.2.2.2.2.1)
        obtain ⟨e1, he1⟩ : ∃ e1, e1 = e0 - 2 := ⟨_, rfl⟩
        have hx := HR.out.2.2.2.1
        have TF := Lib.hid <| show wrap32 (e0 - 2) = e1 by rw [he1]; unfold wrap32; omega
        have h1 := H0.out.2.2.2.1
        have hcn : Cn (v * sc s) (r * 10 ^ 2) (e0 - ((2 : Nat) : Int)) := cn_amt HR.out.1 HR.out.2.1 (by omega) HR.out.2.2.1 (by decide) (by have := H3.out; omega)
        have hcn2 : Cn (v * sc s) cc e1 := by
          have q1 : cc = r * 10 ^ 2 := by rw [hcc]; rfl
          have q2 : e1 = e0 - ((2 : Nat) : Int) := by rw [he1]; rfl
          rw [q1, q2]; exact hcn
        have HE := Lib.hid (And.intro hcn2 (And.intro (show -800 ≤ e1 ∧ e1 ≤ 5000 by omega) mw2))
        clear hcn hcn2 he1 hx h1 hcc hok mw mw2
        have tf := TF.out
        go_wp2_with fail
        refine AP.out.mono ?_
        rintro e w3 ⟨v5, rfl, hbs, hm3⟩
        have HB := Lib.hid (And.intro hbs hm3)
        clear hbs hm3
        go_wp2_with fail
        go_ret2
        exact ⟨v5, cc, e1, by first | rfl | rw [tf], HE.out.1, HB.out.1.base HE.out.2.2.size, HE.out.2.2.trans HB.out.2, HE.out.2.1⟩
  · have tq : e0.tmod 3 = 0 := hq
    have H3 := Lib.hid h3
    clear hq h3
    have mw2 := H0.out.2.2.2.2.2.2.1
    have AP := Lib.hid (appendInt_calls r _ (H0.out.1.new mw2) HR.out.2.2.2.2 o H0.out.2.2.2.2.2.1)
    have hx := HR.out.2.2.2.1
    have h1 := H0.out.2.2.2.1
    have hcn : Cn (v * sc s) (r * 10 ^ 0) (e0 - ((0 : Nat) : Int)) := cn_amt HR.out.1 HR.out.2.1 (by omega) HR.out.2.2.1 (by decide) (by have := H3.out; omega)
    have hcn2 : Cn (v * sc s) r e0 := by simpa using hcn
    have HE := Lib.hid (And.intro hcn2 (And.intro (show -800 ≤ e0 ∧ e0 ≤ 5000 by omega) mw2))
    clear hcn hcn2 hx h1 mw2
    go_wp2_with fail
    refine AP.out.mono ?_
    rintro e w3 ⟨v5, rfl, hbs, hm3⟩
    have HB := Lib.hid (And.intro hbs hm3)
    clear hbs hm3
    go_wp2_with fail
    go_ret2
    exact ⟨v5, r, e0, by first | rfl | rw [te], HE.out.1, HB.out.1.base HE.out.2.2.size, HE.out.2.2.trans HB.out.2, HE.out.2.1⟩
end Go.Proofs.YtcpjclakdpjjfaaGreatDoor
namespace Go.Proofs.YtcpjclakdpjjfaaGreatDoor
open Go.RowKit Wd Dg
def AMulRet (w : World) (b : Nat) (v s y : Int) (d st f : Value) (e : Ending) (w' : World) : Prop :=
  Mod [b] w w' ∧ ((e = .returned (.bool true) ∧ ∃ v' s', Hd w' b 70 (qc v' s' d st f) ∧ i64 v' ∧ (s' = s ∨ s' = 0) ∧ v' * sc s' = v * sc s * y) ∨ (e = .returned (.bool false) ∧ Hd w' b 70 (qc v s d st f)))
theorem AMulRet.set {w : World} {b : Nat} {v s y cc : Int} {d st f : Value} (h : Hd w b 70 (qc v s d st f)) (k : Nat) (hc : i64 cc) (h3 : cc = v * y) : AMulRet w b v s y d st f (.returned (.bool true)) ((w.drewN k).setCell ⟨b, 0, none⟩ (.int .i64 cc)) :=
  ⟨((Mod.refl [b] w).drewN k).setCell _ (.inl (by simp)), .inl ⟨rfl, cc, s, Hd.set (h.mod ((Mod.refl [] w).drewN k) (by simp)) 0 (.int .i64 cc), hc, .inl rfl, by rw [h3, Int.mul_right_comm]⟩⟩
set_option maxHeartbeats 800000 in
theorem amtScaled0 (v s : Int) (w : World) (hv : i64 v) (h1 : -10000 ≤ s) (h2 : s ≤ 10000) :
    Calls Tryz.prog 322 #[amt v s, .int .i32 0] w fun e w' => Mod [] w w' ∧ ∃ c ok, e = .returned (.tuple #[.int .i64 c, .bool ok]) ∧ i64 c ∧ (ok = true → (∃ n : Nat, s = n ∧ c = v * (10 ^ n : Nat)) ∨ (∃ n : Nat, 0 < n ∧ s = -(n : Int) ∧ c = up v (10 ^ n))) := by
  have ma : Mod [] w (w.alloc (.cells #[.int .i64 v, .int .i32 s] 64)) := (Mod.refl [] w).alloc _
  have HM := Lib.hid ma
  clear ma
  unfold amt
  rcases Int.lt_or_le s 0 with hs | hs
  · have t1 : decide (s < 0) = true := by simp; omega
    obtain ⟨n, hn⟩ : ∃ n : Nat, s = -(n : Int) := ⟨(-s).toNat, by omega⟩
    have T := Lib.hid <| show wrap32 (0 - s) = (n : Int) by unfold wrap32; omega
    have T2 := Lib.hid <| show wrap32 (-s) = (n : Int) by unfold wrap32; omega
    have NS := Lib.hid (fun w => negativeScale_calls v n w hv (by omega))
    have HN := Lib.hid (And.intro hn (And.intro (show 0 < n by omega) hv))
    clear hn hs h1 h2 hv
    have tt := T.out
    have tt2 := T2.out
    go_enter Tryz.func322, Tryz.ntmps322
    go_wp2_with fail
    refine (NS.out _).mono ?_
    rintro e w2 ⟨rfl, rfl⟩
    have hu : i64 (up v (10 ^ n)) := by
      have h1 : (up v (10 ^ n)).natAbs ≤ v.natAbs := by
        rw [ns_end]
        by_cases hf : nsF v n = true
        · rw [if_pos hf]
          have := nsF_room hf
          have := nsV_sgn v n
          split <;> omega
        · rw [if_neg hf]; exact nsV_le v n
      have h2 : (0 ≤ v → 0 ≤ up v (10 ^ n)) := fun h => by unfold up; rw [if_neg (by omega)]; omega
      have h2b : (v < 0 → up v (10 ^ n) ≤ 0) := fun h => by unfold up; rw [if_pos h]; omega
      have h3 := HN.out.2.2
      unfold i64 at h3 ⊢
      omega
    have HU := Lib.hid hu
    have HX : ∃ U, U = up v (10 ^ n) := ⟨_, rfl⟩
    obtain ⟨U, hU⟩ := HX
    rw [← hU] at HU ⊢
    have HUU := Lib.hid hU
    generalize (!nsF v n) = F at *
    clear hu hU
    go_wp2_with fail
    go_ret2
    exact ⟨HM.out, U, true, rfl, HU.out, fun _ => .inr ⟨n, HN.out.2.1, HN.out.1, HUU.out⟩⟩
  · have t1 : decide (s < 0) = false := by simp; omega
    obtain ⟨n, rfl⟩ : ∃ n : Nat, s = n := ⟨s.toNat, by omega⟩
    have T := Lib.hid <| show wrap32 (n : Int) = (n : Int) by unfold wrap32; omega
    have PS := Lib.hid (fun w => positiveScale_calls v n w hv (by omega))
    clear hs h1 h2 hv
    have tt := T.out
    go_enter Tryz.func322, Tryz.ntmps322
    go_wp2_with fail
    refine (PS.out _).mono ?_
    rintro e w2 ⟨cc, ok, rfl, ⟨m, rfl⟩, hok, hc64⟩
    have HO := Lib.hid (And.intro hok hc64)
    clear hok hc64
    go_wp2_with fail
    go_ret2
    exact ⟨HM.out.drewN _, cc, ok, rfl, HO.out.2, fun h => .inl ⟨n, rfl, HO.out.1 h⟩⟩
end Go.Proofs.YtcpjclakdpjjfaaGreatDoor
