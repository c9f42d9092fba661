/- Whole numbers as texts and as int64 (spec/quantities.go: DecimalText, DecimalInt). What a quantity may be (spec/quantities.go: QuantityMay). The canonical text of a number (spec/quantities.go: QuantityCanonical): by ten. -/
import Derived.Test.YtcpjclakdpjjfaaGreatDoorW36
import Derived.Deep.RegionHeld3
import Derived.Deep.RegionLaw
namespace Go.Proofs.YtcpjclakdpjjfaaGreatDoor
open Go.RowKit Wd Dg
theorem dch_snoc (l : List Nat) (d : Nat) : dch (l ++ [d]) = dch l ++ [UInt8.ofNat (48 + d)] := by simp [dch]
theorem digit_text {d : Nat} (h : d ≤ 9) : (⟨#[48, 49, 50, 51, 52, 53, 54, 55, 56, 57]⟩ : ByteArray).extract d (d + 1) = ⟨#[UInt8.ofNat (48 + d)]⟩ := by
  have : d = 0 ∨ d = 1 ∨ d = 2 ∨ d = 3 ∨ d = 4 ∨ d = 5 ∨ d = 6 ∨ d = 7 ∨ d = 8 ∨ d = 9 := by omega
  rcases this with rfl | rfl | rfl | rfl | rfl | rfl | rfl | rfl | rfl | rfl <;> rfl
theorem ba_app (l1 l2 : List UInt8) : (⟨l1.toArray⟩ : ByteArray) ++ ⟨l2.toArray⟩ = ⟨(l1 ++ l2).toArray⟩ := by
  ext1
  simp
set_option maxRecDepth 10000 in
set_option maxHeartbeats 3200000 in
theorem spec_text (d : Value) (V lo hi n : Int) (w : World) (h : Dc w d V lo hi) (hn : V = n * sc 0) (hlo : -400 ≤ lo) (h7 : 0 ≤ hi - lo) (h8 : hi - lo ≤ 1000) : Calls Tryz.prog 42 #[d] w fun e w' => e = .returned (.string ⟨(Lib.itoa n).toArray⟩) ∧ Mod [] w w' := by
  obtain ⟨neg, sl, l, ex, rfl, hir, hF⟩ := h
  obtain ⟨a, c, rfl, hc1, hc2⟩ := hir.form
  by_cases hl : l = []
  · have hV0 := hF.eq0.2 hl
    have hn0 : n = 0 := by
      have := sc_pos 0
      rw [hV0] at hn
      rcases Int.mul_eq_zero.1 hn.symm with h | h
      · exact h
      · omega
    subst hn0
    have hlen : l.length = 0 := by rw [hl]; rfl
    rw [hlen]
    clear hir hF hV0 hn hc1 hc2 hlen hl
    unfold dcv
    go_enter Tryz.func42, Tryz.ntmps42
    go_wp2_with fail
    go_ret
    exact ⟨by rw [show Lib.itoa 0 = [48] by decide +kernel]; rfl, (Mod.refl [] w).alloc _⟩
  · have hT := hF.text hn hl
    have hx := hF.whole hn hl
    have hg := hF.ge hl
    have hle := hF.le hl
    have hbh := hF.bhi
    have WD := Lib.hid (fun (w' : World) (m : Mod [] w w') => wide_calls neg (.slice a l.length c) l ex 0 w' (hir.mod m) (by omega) (by omega) (by omega) (by omega) (by omega))
    have hA := hF.nd.ad
    have hl0 : 0 < l.length := List.length_pos_iff.2 hl
    have HT := Lib.hid (And.intro hT (And.intro hA (And.intro hl (show (ex - 0).toNat = ex.toNat by omega))))
    have t1 : ((l.length : Int) == 0) = false := by simp; exact hl
    have hb : l.length + ex.toNat ≤ 1000 := by omega
    have HBB := Lib.hid hb
    clear hT hx hg hle hbh hir hF hn hlo h7 h8 hc1 hc2 hA hl hl0 hb
    unfold dcv at *
    cases neg
    · go_enter Tryz.func42, Tryz.ntmps42
      go_wp2_with fail
      refine (WD.out _ ((Mod.refl [] w).alloc _)).mono ?_
      rintro _ w2 ⟨v, rfl, i2, m2⟩
      rw [if_neg HT.out.2.2.1, HT.out.2.2.2] at i2
      obtain ⟨R, hR⟩ : ∃ R, R = l ++ List.replicate ex.toNat 0 := ⟨_, rfl⟩
      rw [← hR] at i2
      have hRA : AD R := by rw [hR]; exact HT.out.2.1.append (AD.zeros _)
      obtain ⟨g2, o2, c2, rfl, k1, k2, k3, k4⟩ := i2.cells (by rw [hR]; have := HT.out.2.2.1; simp [this])
      have k5 : ∀ i, i < R.length → w2.cell? ⟨g2, o2 + i, none⟩ = some (.int .i64 ((R.getD i 0 : Nat) : Int)) := fun i hi => by rw [getD_cell hi]; exact k4 i hi
      have k6 : ∀ i, i < R.length → R.take (i + 1) = R.take i ++ [R.getD i 0] := fun i hi => by rw [getD_cell hi]; exact List.take_succ_eq_append_getElem hi
      clear k4
      have HR := Lib.hid (And.intro hR (And.intro hRA (And.intro (And.intro k5 k6) (And.intro m2 (show R.length ≤ 1000 by have := HBB.out; rw [hR]; simp; omega)))))
      generalize hN : R.length = N at *
      have HN := Lib.hid hN
      clear hR hRA k5 k6 m2 i2 k3 hN
      go_wp2_with fail
      go_loop [3, 15] (fun t3 t15 => ∃ (k : Nat) (s : ByteArray), t15 = .int .i64 k ∧ k ≤ N ∧ t3 = .string s ∧ s = ⟨(([] : List UInt8) ++ dch (R.take k)).toArray⟩) (fun _ t15 => N - (intOf t15).toNat)
      case atStart => exact ⟨0, _, rfl, Nat.zero_le _, rfl, by simp [dch]⟩
      case round =>
        obtain ⟨k, s, rfl, hk, rfl, hs⟩ := hrel
        have hN2 := HN.out
        have hB := HR.out.2.2.2.2
        rcases Nat.lt_or_ge k N with hkn | hkn
        · have e1 := HR.out.2.2.1.1 k hkn
          have hd9 := digit_le HR.out.2.1 k
          have htk := HR.out.2.2.1.2 k hkn
          generalize R.getD k 0 = dd at *
          have tdx := digit_text hd9
          have twd : wrap64 ((dd : Int) + 1) = ((dd + 1 : Nat) : Int) := w64 (by omega) (by omega) (by omega)
          have d1 : decide (k < N) = true := by simpa using hkn
          have hd10 : dd + 1 ≤ 10 := by omega
          have HK := Lib.hid (And.intro hs (And.intro htk (And.intro hd9 (And.intro hkn hk))))
          have hkb : k < 1000 := by omega
          have hsz : s.size ≤ 2000 := by
            have e : s.size = (([] : List UInt8) ++ dch (R.take k)).length := by rw [hs]; rfl
            rw [e]; simp [dch]; omega
          clear hs htk hk hN2 hB
          go_wp2_with fail
          go_round
          case rel =>
            refine ⟨k + 1, _, by go_num, HK.out.2.2.2.1, rfl, ?_⟩
            rw [HK.out.2.1, dch_snoc, HK.out.1, ← List.append_assoc, UInt8.ofNat_add]
            exact ba_app _ [UInt8.ofNat 48 + UInt8.ofNat dd]
          case measure => simp [intOf]; have := HK.out.2.2.2.1; omega
        · have hke : k = N := by omega
          have d1 : decide (k < N) = false := by simp; omega
          have HK := Lib.hid (And.intro hs hke)
          clear hs hke hk hkn hN2 hB
          go_wp2_with fail
          go_ret
          refine ⟨?_, ((Mod.refl [] w).alloc _).trans HR.out.2.2.2.1⟩
          rw [← HT.out.1, ← HR.out.1, HK.out.1, HK.out.2, ← HN.out, List.take_length]
          rfl
    · go_enter Tryz.func42, Tryz.ntmps42
      go_wp2_with fail
      refine (WD.out _ ((Mod.refl [] w).alloc _)).mono ?_
      rintro _ w2 ⟨v, rfl, i2, m2⟩
      rw [if_neg HT.out.2.2.1, HT.out.2.2.2] at i2
      obtain ⟨R, hR⟩ : ∃ R, R = l ++ List.replicate ex.toNat 0 := ⟨_, rfl⟩
      rw [← hR] at i2
      have hRA : AD R := by rw [hR]; exact HT.out.2.1.append (AD.zeros _)
      obtain ⟨g2, o2, c2, rfl, k1, k2, k3, k4⟩ := i2.cells (by rw [hR]; have := HT.out.2.2.1; simp [this])
      have k5 : ∀ i, i < R.length → w2.cell? ⟨g2, o2 + i, none⟩ = some (.int .i64 ((R.getD i 0 : Nat) : Int)) := fun i hi => by rw [getD_cell hi]; exact k4 i hi
      have k6 : ∀ i, i < R.length → R.take (i + 1) = R.take i ++ [R.getD i 0] := fun i hi => by rw [getD_cell hi]; exact List.take_succ_eq_append_getElem hi
      clear k4
      have HR := Lib.hid (And.intro hR (And.intro hRA (And.intro (And.intro k5 k6) (And.intro m2 (show R.length ≤ 1000 by have := HBB.out; rw [hR]; simp; omega)))))
      generalize hN : R.length = N at *
      have HN := Lib.hid hN
      clear hR hRA k5 k6 m2 i2 k3 hN
      go_wp2_with fail
      go_loop [3, 15] (fun t3 t15 => ∃ (k : Nat) (s : ByteArray), t15 = .int .i64 k ∧ k ≤ N ∧ t3 = .string s ∧ s = ⟨(([45] : List UInt8) ++ dch (R.take k)).toArray⟩) (fun _ t15 => N - (intOf t15).toNat)
      case atStart => exact ⟨0, _, rfl, Nat.zero_le _, rfl, by simp [dch]⟩
      case round =>
        obtain ⟨k, s, rfl, hk, rfl, hs⟩ := hrel
        have hN2 := HN.out
        have hB := HR.out.2.2.2.2
        rcases Nat.lt_or_ge k N with hkn | hkn
        · have e1 := HR.out.2.2.1.1 k hkn
          have hd9 := digit_le HR.out.2.1 k
          have htk := HR.out.2.2.1.2 k hkn
          generalize R.getD k 0 = dd at *
          have tdx := digit_text hd9
          have twd : wrap64 ((dd : Int) + 1) = ((dd + 1 : Nat) : Int) := w64 (by omega) (by omega) (by omega)
          have d1 : decide (k < N) = true := by simpa using hkn
          have hd10 : dd + 1 ≤ 10 := by omega
          have HK := Lib.hid (And.intro hs (And.intro htk (And.intro hd9 (And.intro hkn hk))))
          have hkb : k < 1000 := by omega
          have hsz : s.size ≤ 2000 := by
            have e : s.size = (([45] : List UInt8) ++ dch (R.take k)).length := by rw [hs]; rfl
            rw [e]; simp [dch]; omega
          clear hs htk hk hN2 hB
          go_wp2_with fail
          go_round
          case rel =>
            refine ⟨k + 1, _, by go_num, HK.out.2.2.2.1, rfl, ?_⟩
            rw [HK.out.2.1, dch_snoc, HK.out.1, ← List.append_assoc, UInt8.ofNat_add]
            exact ba_app _ [UInt8.ofNat 48 + UInt8.ofNat dd]
          case measure => simp [intOf]; have := HK.out.2.2.2.1; omega
        · have hke : k = N := by omega
          have d1 : decide (k < N) = false := by simp; omega
          have HK := Lib.hid (And.intro hs hke)
          clear hs hke hk hkn hN2 hB
          go_wp2_with fail
          go_ret
          refine ⟨?_, ((Mod.refl [] w).alloc _).trans HR.out.2.2.2.1⟩
          rw [← HT.out.1, ← HR.out.1, HK.out.1, HK.out.2, ← HN.out, List.take_length]
          rfl
/-- The number of digits read from the front. -/
theorem dv_take_getD {l : List Nat} {k : Nat} (h : k < l.length) : dv (l.take (k + 1)) = 10 * dv (l.take k) + l.getD k 0 := by
  rw [getD_cell h]; exact dv_take_succ h
set_option maxRecDepth 10000 in
set_option maxHeartbeats 3200000 in
theorem spec_int (d : Value) (V lo hi n : Int) (w : World) (h : Dc w d V lo hi) (hn : V = n * sc 0) (hb : n.natAbs ≤ 9223372036854775807) (h7 : 0 ≤ hi - lo) : Calls Tryz.prog 43 #[d] w fun e w' => e = .returned (.tuple #[.int .i64 n, .bool true]) ∧ Mod [] w w' := by
  obtain ⟨neg, sl, l, ex, rfl, hir, hF⟩ := h
  obtain ⟨a, c, rfl, hc1, hc2⟩ := hir.form
  have hlo := hF.blo
  have hlen := hF.len h7
  have hbh := hF.bhi
  obtain ⟨R, hR⟩ : ∃ R, R = if l = [] then [] else l ++ List.replicate (ex - 0).toNat 0 := ⟨_, rfl⟩
  have hfacts : 0 ≤ ex ∧ ex ≤ 1000 ∧ dv R = n.natAbs ∧ neg = decide (n < 0) ∧ (l.length : Int) + ex ≤ 19 ∧ AD R ∧ R.length ≤ 1000000 := by
    by_cases hl : l = []
    · have hV0 := hF.eq0.2 hl
      have hn0 : n = 0 := by
        have := sc_pos 0
        rw [hV0] at hn
        rcases Int.mul_eq_zero.1 hn.symm with h | h
        · exact h
        · omega
      obtain ⟨z1, z2⟩ := hF.zero hl
      rw [hR, if_pos hl, hn0, z1, z2, hl]
      exact ⟨by decide, by decide, rfl, rfl, by decide, AD.nil, by decide⟩
    · obtain ⟨x1, x2, x3, x4⟩ := hF.whole hn hl
      have hle := hF.le hl
      have e : (ex - 0).toNat = ex.toNat := by omega
      have hv : dv R = n.natAbs := by rw [hR, if_neg hl, e, x2, dv_dg]
      refine ⟨x1, by omega, hv, x3, ?_, by rw [hR, if_neg hl]; exact hF.nd.ad.append (AD.zeros _), by rw [hR, if_neg hl]; simp; omega⟩
      have h1 := hF.nd.pos hl
      rw [hR, if_neg hl, e, dv_pad] at hv
      have h2 : 10 ^ (l.length - 1) * 10 ^ ex.toNat ≤ n.natAbs := by rw [← hv]; exact Nat.mul_le_mul_right _ h1
      rw [← Nat.pow_add] at h2
      rcases Nat.lt_or_ge 18 (l.length - 1 + ex.toNat) with h3 | h3
      · have h4 : (10 : Nat) ^ 19 ≤ 10 ^ (l.length - 1 + ex.toNat) := Nat.pow_le_pow_right (by decide) h3
        have h5 : (10 : Nat) ^ 19 = 10000000000000000000 := by decide
        omega
      · have := List.length_pos_iff.2 hl
        omega
  obtain ⟨f1, f2, f3, f4, f5, f6, f7⟩ := hfacts
  have HBB := Lib.hid f7
  have WD := Lib.hid (fun (w' : World) (m : Mod [] w w') => wide_calls neg (.slice a l.length c) l ex 0 w' (hir.mod m) (by omega) (by omega) (by omega) (by omega) (by omega))
  rw [← hR] at WD
  have HT := Lib.hid (And.intro f3 (And.intro f4 (And.intro f6 hb)))
  have t1 : decide (ex < 0) = false := by simp; omega
  have t2 : decide ((19 : Int) < (l.length : Int) + ex) = false := by simp; omega
  have t3 : wrap64 ((l.length : Int) + ex) = (l.length : Int) + ex := w64 rfl (by omega) (by omega)
  clear hir hF hn hb h7 hc1 hc2 hlo hlen hbh f1 f2 f3 f4 f5 f6 f7 hR
  unfold dcv at *
  rcases Nat.eq_zero_or_pos l.length with h0 | h0
  · have t0 : decide (0 < l.length) = false := by rw [h0]; rfl
    clear h0
    generalize l.length = n1 at *
    cases neg
    · go_enter Tryz.func43, Tryz.ntmps43
      go_wp2_with fail
      refine (WD.out _ ((Mod.refl [] w).alloc _)).mono ?_
      rintro _ w2 ⟨v, rfl, i2, m2⟩
      have p0 : w2.cell? ⟨w.heap.size, 0, none⟩ = some (.bool _) := Hd.cell (Hd.mod (Hd.new w 27 _) m2 (by simp)) (i := 0) rfl
      have k5 : ∀ i, i < R.length → ∃ g2 o2 c2, v = .slice (some ⟨g2, o2, none⟩) R.length c2 ∧ w2.cell? ⟨g2, o2 + i, none⟩ = some (.int .i64 ((R.getD i 0 : Nat) : Int)) := fun i hi => by
        obtain ⟨g2, o2, c2, rfl, k1, k2, k3, k4⟩ := i2.cells (by rintro rfl; simp at hi)
        exact ⟨g2, o2, c2, rfl, by rw [getD_cell hi]; exact k4 i hi⟩
      obtain ⟨a2, c2, hv, k1, k2⟩ := i2.form
      subst hv
      have HR := Lib.hid (And.intro k5 m2)
      have hRl : R.length ≤ 1000000 := by
        have := HBB.out; omega
      clear k5 i2 m2
      have HN := Lib.hid (fun (k : Nat) (h : k < R.length) => dv_take_getD h)
      have HL := Lib.hid (fun (k : Nat) => show dv (R.take k) ≤ dv R by
        have e : dv R = dv (R.take k) * 10 ^ (R.drop k).length + dv (R.drop k) := by rw [← dv_append, List.take_append_drop]
        have := Nat.le_mul_of_pos_right (dv (R.take k)) (Nat.pow_pos (n := (R.drop k).length) (show 0 < 10 by decide))
        omega)
      have HE := Lib.hid (show dv (R.take R.length) = n.natAbs by rw [List.take_length]; exact HT.out.1)
      generalize R.length = N at *
      go_wp2_with fail
      go_loop [4, 28] (fun t4 t28 => ∃ k : Nat, t28 = .int .i64 k ∧ k ≤ N ∧ t4 = .int .u64 (dv (R.take k) : Nat)) (fun _ t28 => N - (intOf t28).toNat)
      case atStart => exact ⟨0, rfl, Nat.zero_le _, rfl⟩
      case round =>
        obtain ⟨k, rfl, hk, rfl⟩ := hrel
        have hx1 := HL.out k
        have hRn := HT.out.1
        have hnb := HT.out.2.2.2
        rcases Nat.lt_or_ge k N with hkn | hkn
        · obtain ⟨g2, o2, c3, hv, e1⟩ := HR.out.1 k hkn
          obtain ⟨hv1, -, -⟩ := Value.slice.inj hv
          subst hv1
          have hx2 := HL.out (k + 1)
          have hx3 := HN.out k hkn
          rw [hx3] at hx2
          have HX := Lib.hid hx3
          generalize dv (R.take k) = x at *
          generalize R.getD k 0 = dd at *
          have m1 : IntKind.u64.wrap (10 * (x : Int)) = ((10 * x : Nat) : Int) := by rw [IntKind.wrap_u64]; omega
          have m2 : IntKind.u64.wrap (dd : Int) = (dd : Int) := by rw [IntKind.wrap_u64]; omega
          have m3 : IntKind.u64.wrap (((10 * x : Nat) : Int) + (dd : Int)) = ((10 * x + dd : Nat) : Int) := by rw [IntKind.wrap_u64]; omega
          have d1 : decide (k < N) = true := by simpa using hkn
          obtain ⟨z, hz⟩ : ∃ z, z = 10 * x := ⟨_, rfl⟩
          obtain ⟨y, hy⟩ : ∃ y, y = 10 * x + dd := ⟨_, rfl⟩
          rw [← hz] at m1 m3
          rw [hz, ← hy, ← hz] at m3
          rw [← hy] at HX
          have HK := Lib.hid (And.intro hk hkn)
          clear hx1 hx2 hx3 hRn hnb hv hz hy hk
          go_wp2_with fail
          go_round
          case rel => exact ⟨k + 1, by go_num, HK.out.2, by rw [HX.out]⟩
          case measure => simp [intOf]; have := HK.out.2; omega
        · have hke : k = N := by omega
          subst hke
          rw [HE.out]
          have d1 : decide (k < k) = false := by simp
          have hng := HT.out.2.1
          have q1 : decide ((n.natAbs : Int) < 9223372036854775808) = true := decide_eq_true (by omega)
          have q2 : wrap64 (n.natAbs : Int) = n := w64 (by have h := of_decide_eq_false hng.symm; omega) (by omega) (by omega)
          have HZ := Lib.hid hng
          clear hx1 hRn hnb hk hkn hng
          generalize hU : n.natAbs = U at *
          have HU := Lib.hid hU
          clear hU
          go_wp2_with fail
          go_ret2
          exact ⟨rfl, ((Mod.refl [] w).alloc _).trans HR.out.2⟩
    · go_enter Tryz.func43, Tryz.ntmps43
      go_wp2_with fail
      refine (WD.out _ ((Mod.refl [] w).alloc _)).mono ?_
      rintro _ w2 ⟨v, rfl, i2, m2⟩
      have p0 : w2.cell? ⟨w.heap.size, 0, none⟩ = some (.bool _) := Hd.cell (Hd.mod (Hd.new w 27 _) m2 (by simp)) (i := 0) rfl
      have k5 : ∀ i, i < R.length → ∃ g2 o2 c2, v = .slice (some ⟨g2, o2, none⟩) R.length c2 ∧ w2.cell? ⟨g2, o2 + i, none⟩ = some (.int .i64 ((R.getD i 0 : Nat) : Int)) := fun i hi => by
        obtain ⟨g2, o2, c2, rfl, k1, k2, k3, k4⟩ := i2.cells (by rintro rfl; simp at hi)
        exact ⟨g2, o2, c2, rfl, by rw [getD_cell hi]; exact k4 i hi⟩
      obtain ⟨a2, c2, hv, k1, k2⟩ := i2.form
      subst hv
      have HR := Lib.hid (And.intro k5 m2)
      have hRl : R.length ≤ 1000000 := by
        have := HBB.out; omega
      clear k5 i2 m2
      have HN := Lib.hid (fun (k : Nat) (h : k < R.length) => dv_take_getD h)
      have HL := Lib.hid (fun (k : Nat) => show dv (R.take k) ≤ dv R by
        have e : dv R = dv (R.take k) * 10 ^ (R.drop k).length + dv (R.drop k) := by rw [← dv_append, List.take_append_drop]
        have := Nat.le_mul_of_pos_right (dv (R.take k)) (Nat.pow_pos (n := (R.drop k).length) (show 0 < 10 by decide))
        omega)
      have HE := Lib.hid (show dv (R.take R.length) = n.natAbs by rw [List.take_length]; exact HT.out.1)
      generalize R.length = N at *
      go_wp2_with fail
      go_loop [4, 28] (fun t4 t28 => ∃ k : Nat, t28 = .int .i64 k ∧ k ≤ N ∧ t4 = .int .u64 (dv (R.take k) : Nat)) (fun _ t28 => N - (intOf t28).toNat)
      case atStart => exact ⟨0, rfl, Nat.zero_le _, rfl⟩
      case round =>
        obtain ⟨k, rfl, hk, rfl⟩ := hrel
        have hx1 := HL.out k
        have hRn := HT.out.1
        have hnb := HT.out.2.2.2
        rcases Nat.lt_or_ge k N with hkn | hkn
        · obtain ⟨g2, o2, c3, hv, e1⟩ := HR.out.1 k hkn
          obtain ⟨hv1, -, -⟩ := Value.slice.inj hv
          subst hv1
          have hx2 := HL.out (k + 1)
          have hx3 := HN.out k hkn
          rw [hx3] at hx2
          have HX := Lib.hid hx3
          generalize dv (R.take k) = x at *
          generalize R.getD k 0 = dd at *
          have m1 : IntKind.u64.wrap (10 * (x : Int)) = ((10 * x : Nat) : Int) := by rw [IntKind.wrap_u64]; omega
          have m2 : IntKind.u64.wrap (dd : Int) = (dd : Int) := by rw [IntKind.wrap_u64]; omega
          have m3 : IntKind.u64.wrap (((10 * x : Nat) : Int) + (dd : Int)) = ((10 * x + dd : Nat) : Int) := by rw [IntKind.wrap_u64]; omega
          have d1 : decide (k < N) = true := by simpa using hkn
          obtain ⟨z, hz⟩ : ∃ z, z = 10 * x := ⟨_, rfl⟩
          obtain ⟨y, hy⟩ : ∃ y, y = 10 * x + dd := ⟨_, rfl⟩
          rw [← hz] at m1 m3
          rw [hz, ← hy, ← hz] at m3
          rw [← hy] at HX
          have HK := Lib.hid (And.intro hk hkn)
          clear hx1 hx2 hx3 hRn hnb hv hz hy hk
          go_wp2_with fail
          go_round
          case rel => exact ⟨k + 1, by go_num, HK.out.2, by rw [HX.out]⟩
          case measure => simp [intOf]; have := HK.out.2; omega
        · have hke : k = N := by omega
          subst hke
          rw [HE.out]
          have d1 : decide (k < k) = false := by simp
          have hng := HT.out.2.1
          have q1 : decide ((n.natAbs : Int) ≤ 9223372036854775808) = true := decide_eq_true (by omega)
          have q2 : wrap64 (((18446744073709551616 - n.natAbs : Nat) : Int)) = n := by have h := of_decide_eq_true hng.symm; unfold wrap64; omega
          have q3 : IntKind.u64.wrap (-(n.natAbs : Int)) = ((18446744073709551616 - n.natAbs : Nat) : Int) := by have h := of_decide_eq_true hng.symm; rw [IntKind.wrap_u64]; omega
          generalize 18446744073709551616 - n.natAbs = mm at *
          have HZ := Lib.hid hng
          clear hx1 hRn hnb hk hkn hng
          generalize hU : n.natAbs = U at *
          have HU := Lib.hid hU
          clear hU
          go_wp2_with fail
          go_ret2
          exact ⟨rfl, ((Mod.refl [] w).alloc _).trans HR.out.2⟩
  · have t0 : decide (0 < l.length) = true := by simpa using h0
    clear h0
    generalize l.length = n1 at *
    cases neg
    · go_enter Tryz.func43, Tryz.ntmps43
      go_wp2_with fail
      refine (WD.out _ ((Mod.refl [] w).alloc _)).mono ?_
      rintro _ w2 ⟨v, rfl, i2, m2⟩
      have p0 : w2.cell? ⟨w.heap.size, 0, none⟩ = some (.bool _) := Hd.cell (Hd.mod (Hd.new w 27 _) m2 (by simp)) (i := 0) rfl
      have k5 : ∀ i, i < R.length → ∃ g2 o2 c2, v = .slice (some ⟨g2, o2, none⟩) R.length c2 ∧ w2.cell? ⟨g2, o2 + i, none⟩ = some (.int .i64 ((R.getD i 0 : Nat) : Int)) := fun i hi => by
        obtain ⟨g2, o2, c2, rfl, k1, k2, k3, k4⟩ := i2.cells (by rintro rfl; simp at hi)
        exact ⟨g2, o2, c2, rfl, by rw [getD_cell hi]; exact k4 i hi⟩
      obtain ⟨a2, c2, hv, k1, k2⟩ := i2.form
      subst hv
      have HR := Lib.hid (And.intro k5 m2)
      have hRl : R.length ≤ 1000000 := by
        have := HBB.out; omega
      clear k5 i2 m2
      have HN := Lib.hid (fun (k : Nat) (h : k < R.length) => dv_take_getD h)
      have HL := Lib.hid (fun (k : Nat) => show dv (R.take k) ≤ dv R by
        have e : dv R = dv (R.take k) * 10 ^ (R.drop k).length + dv (R.drop k) := by rw [← dv_append, List.take_append_drop]
        have := Nat.le_mul_of_pos_right (dv (R.take k)) (Nat.pow_pos (n := (R.drop k).length) (show 0 < 10 by decide))
        omega)
      have HE := Lib.hid (show dv (R.take R.length) = n.natAbs by rw [List.take_length]; exact HT.out.1)
      generalize R.length = N at *
      go_wp2_with fail
      go_loop [4, 28] (fun t4 t28 => ∃ k : Nat, t28 = .int .i64 k ∧ k ≤ N ∧ t4 = .int .u64 (dv (R.take k) : Nat)) (fun _ t28 => N - (intOf t28).toNat)
      case atStart => exact ⟨0, rfl, Nat.zero_le _, rfl⟩
      case round =>
        obtain ⟨k, rfl, hk, rfl⟩ := hrel
        have hx1 := HL.out k
        have hRn := HT.out.1
        have hnb := HT.out.2.2.2
        rcases Nat.lt_or_ge k N with hkn | hkn
        · obtain ⟨g2, o2, c3, hv, e1⟩ := HR.out.1 k hkn
          obtain ⟨hv1, -, -⟩ := Value.slice.inj hv
          subst hv1
          have hx2 := HL.out (k + 1)
          have hx3 := HN.out k hkn
          rw [hx3] at hx2
          have HX := Lib.hid hx3
          generalize dv (R.take k) = x at *
          generalize R.getD k 0 = dd at *
          have m1 : IntKind.u64.wrap (10 * (x : Int)) = ((10 * x : Nat) : Int) := by rw [IntKind.wrap_u64]; omega
          have m2 : IntKind.u64.wrap (dd : Int) = (dd : Int) := by rw [IntKind.wrap_u64]; omega
          have m3 : IntKind.u64.wrap (((10 * x : Nat) : Int) + (dd : Int)) = ((10 * x + dd : Nat) : Int) := by rw [IntKind.wrap_u64]; omega
          have d1 : decide (k < N) = true := by simpa using hkn
          obtain ⟨z, hz⟩ : ∃ z, z = 10 * x := ⟨_, rfl⟩
          obtain ⟨y, hy⟩ : ∃ y, y = 10 * x + dd := ⟨_, rfl⟩
          rw [← hz] at m1 m3
          rw [hz, ← hy, ← hz] at m3
          rw [← hy] at HX
          have HK := Lib.hid (And.intro hk hkn)
          clear hx1 hx2 hx3 hRn hnb hv hz hy hk
          go_wp2_with fail
          go_round
          case rel => exact ⟨k + 1, by go_num, HK.out.2, by rw [HX.out]⟩
          case measure => simp [intOf]; have := HK.out.2; omega
        · have hke : k = N := by omega
          subst hke
          rw [HE.out]
          have d1 : decide (k < k) = false := by simp
          have hng := HT.out.2.1
          have q1 : decide ((n.natAbs : Int) < 9223372036854775808) = true := decide_eq_true (by omega)
          have q2 : wrap64 (n.natAbs : Int) = n := w64 (by have h := of_decide_eq_false hng.symm; omega) (by omega) (by omega)
          have HZ := Lib.hid hng
          clear hx1 hRn hnb hk hkn hng
          generalize hU : n.natAbs = U at *
          have HU := Lib.hid hU
          clear hU
          go_wp2_with fail
          go_ret2
          exact ⟨rfl, ((Mod.refl [] w).alloc _).trans HR.out.2⟩
    · go_enter Tryz.func43, Tryz.ntmps43
      go_wp2_with fail
      refine (WD.out _ ((Mod.refl [] w).alloc _)).mono ?_
      rintro _ w2 ⟨v, rfl, i2, m2⟩
      have p0 : w2.cell? ⟨w.heap.size, 0, none⟩ = some (.bool _) := Hd.cell (Hd.mod (Hd.new w 27 _) m2 (by simp)) (i := 0) rfl
      have k5 : ∀ i, i < R.length → ∃ g2 o2 c2, v = .slice (some ⟨g2, o2, none⟩) R.length c2 ∧ w2.cell? ⟨g2, o2 + i, none⟩ = some (.int .i64 ((R.getD i 0 : Nat) : Int)) := fun i hi => by
        obtain ⟨g2, o2, c2, rfl, k1, k2, k3, k4⟩ := i2.cells (by rintro rfl; simp at hi)
        exact ⟨g2, o2, c2, rfl, by rw [getD_cell hi]; exact k4 i hi⟩
      obtain ⟨a2, c2, hv, k1, k2⟩ := i2.form
      subst hv
      have HR := Lib.hid (And.intro k5 m2)
      have hRl : R.length ≤ 1000000 := by
        have := HBB.out; omega
      clear k5 i2 m2
      have HN := Lib.hid (fun (k : Nat) (h : k < R.length) => dv_take_getD h)
      have HL := Lib.hid (fun (k : Nat) => show dv (R.take k) ≤ dv R by
        have e : dv R = dv (R.take k) * 10 ^ (R.drop k).length + dv (R.drop k) := by rw [← dv_append, List.take_append_drop]
        have := Nat.le_mul_of_pos_right (dv (R.take k)) (Nat.pow_pos (n := (R.drop k).length) (show 0 < 10 by decide))
        omega)
      have HE := Lib.hid (show dv (R.take R.length) = n.natAbs by rw [List.take_length]; exact HT.out.1)
      generalize R.length = N at *
      go_wp2_with fail
      go_loop [4, 28] (fun t4 t28 => ∃ k : Nat, t28 = .int .i64 k ∧ k ≤ N ∧ t4 = .int .u64 (dv (R.take k) : Nat)) (fun _ t28 => N - (intOf t28).toNat)
      case atStart => exact ⟨0, rfl, Nat.zero_le _, rfl⟩
      case round =>
        obtain ⟨k, rfl, hk, rfl⟩ := hrel
        have hx1 := HL.out k
        have hRn := HT.out.1
        have hnb := HT.out.2.2.2
        rcases Nat.lt_or_ge k N with hkn | hkn
        · obtain ⟨g2, o2, c3, hv, e1⟩ := HR.out.1 k hkn
          obtain ⟨hv1, -, -⟩ := Value.slice.inj hv
          subst hv1
          have hx2 := HL.out (k + 1)
          have hx3 := HN.out k hkn
          rw [hx3] at hx2
          have HX := Lib.hid hx3
          generalize dv (R.take k) = x at *
          generalize R.getD k 0 = dd at *
          have m1 : IntKind.u64.wrap (10 * (x : Int)) = ((10 * x : Nat) : Int) := by rw [IntKind.wrap_u64]; omega
          have m2 : IntKind.u64.wrap (dd : Int) = (dd : Int) := by rw [IntKind.wrap_u64]; omega
          have m3 : IntKind.u64.wrap (((10 * x : Nat) : Int) + (dd : Int)) = ((10 * x + dd : Nat) : Int) := by rw [IntKind.wrap_u64]; omega
          have d1 : decide (k < N) = true := by simpa using hkn
          obtain ⟨z, hz⟩ : ∃ z, z = 10 * x := ⟨_, rfl⟩
          obtain ⟨y, hy⟩ : ∃ y, y = 10 * x + dd := ⟨_, rfl⟩
          rw [← hz] at m1 m3
          rw [hz, ← hy, ← hz] at m3
          rw [← hy] at HX
          have HK := Lib.hid (And.intro hk hkn)
          clear hx1 hx2 hx3 hRn hnb hv hz hy hk
          go_wp2_with fail
          go_round
          case rel => exact ⟨k + 1, by go_num, HK.out.2, by rw [HX.out]⟩
          case measure => simp [intOf]; have := HK.out.2; omega
        · have hke : k = N := by omega
          subst hke
          rw [HE.out]
          have d1 : decide (k < k) = false := by simp
          have hng := HT.out.2.1
          have q1 : decide ((n.natAbs : Int) ≤ 9223372036854775808) = true := decide_eq_true (by omega)
          have q2 : wrap64 (((18446744073709551616 - n.natAbs : Nat) : Int)) = n := by have h := of_decide_eq_true hng.symm; unfold wrap64; omega
          have q3 : IntKind.u64.wrap (-(n.natAbs : Int)) = ((18446744073709551616 - n.natAbs : Nat) : Int) := by have h := of_decide_eq_true hng.symm; rw [IntKind.wrap_u64]; omega
          generalize 18446744073709551616 - n.natAbs = mm at *
          have HZ := Lib.hid hng
          clear hx1 hRn hnb hk hkn hng
          generalize hU : n.natAbs = U at *
          have HU := Lib.hid hU
          clear hU
          go_wp2_with fail
          go_ret2
          exact ⟨rfl, ((Mod.refl [] w).alloc _).trans HR.out.2⟩
end Go.Proofs.YtcpjclakdpjjfaaGreatDoor
namespace Go.Proofs.YtcpjclakdpjjfaaGreatDoor
open Go.RowKit Wd Dg
def MayV (V : Int) : Prop := V.natAbs ≤ 9223372036854775807 * sc 0 ∧ ∃ m : Int, V = m * sc (-3)
theorem Dc.abs {w w' : World} {neg : Bool} {sl : Value} {l : List Nat} {ex V lo hi : Int} (hir : Ir w sl l) (hF : DF neg l ex V lo hi) (m : Mod [] w w') : Dc w' (dcv false sl ex) (V.natAbs : Int) lo hi := by
  refine ⟨false, sl, l, ex, rfl, hir.mod m, ⟨hF.nd, ?_, fun h => ⟨rfl, (hF.zero h).2⟩, hF.ge, hF.le, hF.blo, hF.bhi⟩⟩
  rw [hF.abs, Int.natCast_mul]
  simp [sg]
set_option maxRecDepth 10000 in
set_option maxHeartbeats 3200000 in
theorem spec_may (d : Value) (V lo hi : Int) (w : World) (h : Dc w d V lo hi) : Calls Tryz.prog 29 #[d] w fun e w' => (∃ b, e = .returned (.bool b) ∧ (b = true ↔ MayV V)) ∧ Mod [] w w' := by
  obtain ⟨neg, sl, l, ex, rfl, hir, hF⟩ := h
  obtain ⟨a, c, rfl, -, -⟩ := hir.form
  have hmul := hF.mult (c := -3) (by decide)
  have OF := Lib.hid (fun (w' : World) => decimalOf_calls 9223372036854775807 0 w' (by unfold i64; decide) (by decide) (by decide))
  have CM := Lib.hid (fun (w' : World) (d2 : Value) (m : Mod [] w w') (h2 : Dc w' d2 (9223372036854775807 * sc 0) 0 20) => spec_cmp _ d2 _ _ lo hi 0 20 w' (Dc.abs hir hF m) h2)
  have HV : (cmpV (V.natAbs : Int) (9223372036854775807 * sc 0) ≤ 0) ↔ V.natAbs ≤ 9223372036854775807 * sc 0 := by
    have e : (9223372036854775807 * (sc 0 : Int)) = ((9223372036854775807 * sc 0 : Nat) : Int) := by rw [Int.natCast_mul]; rfl
    rw [e]
    rcases Nat.lt_trichotomy V.natAbs (9223372036854775807 * sc 0) with h | h | h
    · rw [cmpV_lt (by omega)]; constructor <;> intro <;> omega
    · rw [cmpV_eq (by omega)]; constructor <;> intro <;> omega
    · rw [cmpV_gt (by omega)]; constructor <;> intro <;> omega
  generalize hcc : cmpV (V.natAbs : Int) (9223372036854775807 * sc 0) = cc at *
  have HH := Lib.hid (And.intro HV hmul)
  have mW : Mod [] w ((w.alloc (.cells #[.bool neg, .slice a l.length c, .int .i64 ex] 27)).alloc (.cells #[.bool false, .slice a l.length c, .int .i64 ex] 27)) := ((Mod.refl [] w).alloc _).alloc _
  have q1 : Hd ((w.alloc (.cells #[.bool neg, .slice a l.length c, .int .i64 ex] 27)).alloc (.cells #[.bool false, .slice a l.length c, .int .i64 ex] 27)) w.heap.size 27 #[.bool neg, .slice a l.length c, .int .i64 ex] := Hd.mod (Hd.new w 27 _) ((Mod.refl [] _).alloc _) (by simp)
  have q2 : Hd ((w.alloc (.cells #[.bool neg, .slice a l.length c, .int .i64 ex] 27)).alloc (.cells #[.bool false, .slice a l.length c, .int .i64 ex] 27)) (w.heap.size + 1) 27 #[.bool false, .slice a l.length c, .int .i64 ex] := by
    have := Hd.new (w.alloc (.cells #[.bool neg, .slice a l.length c, .int .i64 ex] 27)) 27 #[.bool false, .slice a l.length c, .int .i64 ex]
    simpa using this
  clear hir hF hmul HV hcc
  have hlz : (((l.length : Int) == 0) = true ∧ l = []) ∨ (((l.length : Int) == 0) = false ∧ l ≠ []) := by
    by_cases h : l = []
    · exact .inl ⟨by rw [h]; rfl, h⟩
    · exact .inr ⟨by simp; exact h, h⟩
  unfold dcv at *
  generalize l.length = n1 at *
  have HQ := Lib.hid (And.intro mW (And.intro q1 q2))
  clear mW q1 q2
  have hcle : decide (cc ≤ 0) = decide (V.natAbs ≤ 9223372036854775807 * sc 0) := decide_eq_decide.2 HH.out.1
  have HC := Lib.hid hcle
  clear hcle
  rcases hlz with ⟨t0, hl⟩ | ⟨t0, hl⟩
  · have HL := Lib.hid hl
    clear hl
    go_enter Tryz.func29, Tryz.ntmps29
    go_upto_region 3 with fail
    obtain ⟨mW, q1, q2⟩ := HQ.out
    generalize (w.alloc (.cells #[.bool neg, .slice a n1 c, .int .i64 ex] 27)).alloc (.cells #[.bool false, .slice a n1 c, .int .i64 ex] 27) = WW at *
    have HP := Lib.hid (fun (w' : World) (m : Mod [] WW w') => show (w'.cell? ⟨w.heap.size, 1, none⟩ = some (.slice a n1 c) ∧ w'.cell? ⟨w.heap.size, 2, none⟩ = some (.int .i64 ex)) ∧ (w'.cell? ⟨w.heap.size + 1, 0, none⟩ = some (.bool false) ∧ w'.cell? ⟨w.heap.size + 1, 1, none⟩ = some (.slice a n1 c) ∧ w'.cell? ⟨w.heap.size + 1, 2, none⟩ = some (.int .i64 ex)) from
      ⟨⟨Hd.cell (Hd.mod q1 m (by simp)) rfl, Hd.cell (Hd.mod q1 m (by simp)) rfl⟩, ⟨Hd.cell (Hd.mod q2 m (by simp)) rfl, Hd.cell (Hd.mod q2 m (by simp)) rfl, Hd.cell (Hd.mod q2 m (by simp)) rfl⟩⟩)
    obtain ⟨⟨a1, a2⟩, ⟨b0, b1, b2⟩⟩ := HP.out WW (Mod.refl [] WW)
    have MA := Lib.hid mW
    clear q1 q2 mW HQ
    first | (go_region_law (first | (go_simp; go_at_call 24; refine (OF.out _).mono ?_; rintro e w2 ⟨d2, rfl, hd2, m2⟩; have M2 := Lib.hid (((Mod.refl [] WW).drewN _).trans m2); obtain ⟨⟨c1, c2⟩, ⟨e0, e1, e2⟩⟩ := HP.out w2 M2.out; have CC := Lib.hid (CM.out w2 d2 (MA.out.trans M2.out) hd2); clear m2 hd2 OF) | (go_simp; go_at_call 22; refine CC.out.mono ?_; rintro e w3 ⟨rfl, m3⟩; have M3 := Lib.hid (M2.out.trans m3); obtain ⟨⟨f1, f2⟩, ⟨g0, g1, g2⟩⟩ := HP.out w3 M3.out; clear m3))) | fail "the region"
    all_goals
      go_wp2_with fail
      go_ret
      refine ⟨⟨decide (cc ≤ 0), rfl, ?_⟩, MA.out.trans M3.out⟩
      rw [decide_eq_true_eq]
      exact ⟨fun h => ⟨HH.out.1.1 h, HH.out.2.2 (.inl HL.out)⟩, fun h => HH.out.1.2 h.1⟩
  · have HL := Lib.hid hl
    clear hl
    rcases Int.lt_or_le ex (-3) with hx | hx
    · have t1 : decide ((-3 : Int) ≤ ex) = false := by simp; omega
      have HX := Lib.hid hx
      clear hx
      go_enter Tryz.func29, Tryz.ntmps29
      go_wp2_with fail
      go_quiet (fail)
      go_wp2_with fail
      go_ret
      refine ⟨⟨false, rfl, ?_⟩, HQ.out.1.drewN _⟩
      constructor
      · intro h; cases h
      · intro h
        rcases HH.out.2.1 h.2 with h1 | h1
        · exact (HL.out h1).elim
        · have := HX.out; omega
    · have t1 : decide ((-3 : Int) ≤ ex) = true := by simpa using hx
      have HX := Lib.hid hx
      clear hx
      go_enter Tryz.func29, Tryz.ntmps29
      go_upto_region 3 with fail
      obtain ⟨mW, q1, q2⟩ := HQ.out
      generalize (w.alloc (.cells #[.bool neg, .slice a n1 c, .int .i64 ex] 27)).alloc (.cells #[.bool false, .slice a n1 c, .int .i64 ex] 27) = WW at *
      have HP := Lib.hid (fun (w' : World) (m : Mod [] WW w') => show (w'.cell? ⟨w.heap.size, 1, none⟩ = some (.slice a n1 c) ∧ w'.cell? ⟨w.heap.size, 2, none⟩ = some (.int .i64 ex)) ∧ (w'.cell? ⟨w.heap.size + 1, 0, none⟩ = some (.bool false) ∧ w'.cell? ⟨w.heap.size + 1, 1, none⟩ = some (.slice a n1 c) ∧ w'.cell? ⟨w.heap.size + 1, 2, none⟩ = some (.int .i64 ex)) from
        ⟨⟨Hd.cell (Hd.mod q1 m (by simp)) rfl, Hd.cell (Hd.mod q1 m (by simp)) rfl⟩, ⟨Hd.cell (Hd.mod q2 m (by simp)) rfl, Hd.cell (Hd.mod q2 m (by simp)) rfl, Hd.cell (Hd.mod q2 m (by simp)) rfl⟩⟩)
      obtain ⟨⟨a1, a2⟩, ⟨b0, b1, b2⟩⟩ := HP.out WW (Mod.refl [] WW)
      have MA := Lib.hid mW
      clear q1 q2 mW HQ
      first | (go_region_held3 (fun w' => (w'.cell? ⟨w.heap.size, 1, none⟩ = some (.slice a n1 c) ∧ w'.cell? ⟨w.heap.size, 2, none⟩ = some (.int .i64 ex)) ∧ (w'.cell? ⟨w.heap.size + 1, 0, none⟩ = some (.bool false) ∧ w'.cell? ⟨w.heap.size + 1, 1, none⟩ = some (.slice a n1 c) ∧ w'.cell? ⟨w.heap.size + 1, 2, none⟩ = some (.int .i64 ex))) (go_keep) (first | (go_at_call 24; refine (OF.out _).mono ?_; rintro e w2 ⟨d2, rfl, hd2, m2⟩; have M2 := Lib.hid (((Mod.refl [] WW).drewN _).trans m2); obtain ⟨⟨c1, c2⟩, ⟨e0, e1, e2⟩⟩ := HP.out w2 M2.out; have CC := Lib.hid (CM.out w2 d2 (MA.out.trans M2.out) hd2); clear m2 hd2 OF) | (go_at_call 22; refine CC.out.mono ?_; rintro e w3 ⟨rfl, m3⟩; have M3 := Lib.hid (M2.out.trans m3); obtain ⟨⟨f1, f2⟩, ⟨g0, g1, g2⟩⟩ := HP.out w3 M3.out; clear m3))) | fail "the region"
      all_goals
        go_wp2_with fail
        go_ret
        refine ⟨⟨decide (cc ≤ 0), rfl, ?_⟩, MA.out.trans M3.out⟩
        rw [decide_eq_true_eq]
        exact ⟨fun h => ⟨HH.out.1.1 h, HH.out.2.2 (.inr HX.out)⟩, fun h => HH.out.1.2 h.1⟩
end Go.Proofs.YtcpjclakdpjjfaaGreatDoor
namespace Go.Proofs.YtcpjclakdpjjfaaGreatDoor
open Go.RowKit Wd Dg
/-- What QuantityCanonical hands back. -/
def QcRet (fn : Nat) (V : Int) (w : World) (e : Ending) (w' : World) : Prop := ∃ (t : List UInt8) (b : Bool), e = .returned (.tuple #[.string ⟨t.toArray⟩, .bool b]) ∧ (b = true ↔ CanOk fn V) ∧ (b = true → CanTxt fn V t) ∧ Mod [] w w'
theorem CanOk.may {fn : Nat} {V : Int} (h : CanOk fn V) : MayV V := ⟨h.1, h.2.1⟩
theorem MayV.ok {fn : Nat} {V : Int} (h : MayV V) (hf : fn ≠ 1) : CanOk fn V := ⟨h.1, h.2, fun h1 => (hf h1).elim⟩
set_option maxRecDepth 10000 in
set_option maxHeartbeats 3200000 in
/-- Where nothing is said, and where the number is 0. -/
theorem canon_edge (fn : Nat) (neg : Bool) (sl : Value) (l : List Nat) (ex V lo hi : Int) (w : World) (hir : Ir w sl l) (hF : DF neg l ex V lo hi) (hc : ¬ MayV V ∨ l = []) :
    Calls Tryz.prog 18 #[dcv neg sl ex, .int .i64 fn] w (QcRet fn V w) := by
  have MY := Lib.hid (fun (w' : World) (m : Mod [] w w') => spec_may (dcv neg sl ex) V lo hi w' ⟨neg, sl, l, ex, rfl, hir.mod m, hF⟩)
  obtain ⟨a, c, rfl, -, -⟩ := hir.form
  have h0 := hF.eq0
  have HH := Lib.hid (And.intro hc h0)
  have mA : Mod [] w (w.alloc (.cells #[.bool neg, .slice a l.length c, .int .i64 ex] 27)) := (Mod.refl [] w).alloc _
  have hd := Hd.new w 27 #[.bool neg, .slice a l.length c, .int .i64 ex]
  clear hir hF h0 hc
  unfold dcv at *
  go_enter Tryz.func18, Tryz.ntmps18
  go_wp2_with fail
  refine (MY.out _ mA).mono ?_
  rintro _ w1 ⟨⟨b, rfl, hb⟩, m1⟩
  have hd1 := Hd.mod hd m1 (by simp)
  have c1 := hd1.cell (i := 1) rfl
  cases b
  · have hn : ¬ MayV V := fun h => by have := hb.2 h; cases this
    have HB := Lib.hid (And.intro hn (mA.trans m1))
    clear hb m1 hd hd1 mA hn
    go_wp2_with fail
    go_ret2
    exact ⟨[], false, rfl, ⟨fun h => (by cases h), fun h => (HB.out.1 (CanOk.may h)).elim⟩, fun h => (by cases h), HB.out.2⟩
  · have hm := hb.1 rfl
    have HB := Lib.hid (And.intro hm (mA.trans m1))
    have hl : l = [] := HH.out.1.resolve_left (fun h => h hm)
    have hlen : l.length = 0 := by rw [hl]; rfl
    rw [hlen] at c1
    have HL := Lib.hid hl
    clear hb m1 hd hd1 mA hl hlen hm
    go_wp2_with fail
    go_ret2
    have hV := HH.out.2.2 HL.out
    exact ⟨[48], true, rfl, ⟨fun _ => ⟨HB.out.1.1, HB.out.1.2, fun _ => .inl hV⟩, fun _ => rfl⟩, fun _ => .inl ⟨hV, rfl⟩, HB.out.2⟩
def sfS (e : Int) : ByteArray := ⟨(sfxD e).toArray⟩
/-- The suffixes by thousands as a literal row. -/
theorem cell_sfx (X : World) (q : Nat) (hq : q < 8) : (X.alloc (.cells #[.string ⟨#[109]⟩, .string ⟨#[]⟩, .string ⟨#[107]⟩, .string ⟨#[77]⟩, .string ⟨#[71]⟩, .string ⟨#[84]⟩, .string ⟨#[80]⟩, .string ⟨#[69]⟩] 9)).cell? ⟨X.heap.size, q, none⟩ = some (.string (sfS ((q : Int) * 3 - 3))) := by
  have hd := Hd.new X 9 #[.string ⟨#[109]⟩, .string ⟨#[]⟩, .string ⟨#[107]⟩, .string ⟨#[77]⟩, .string ⟨#[71]⟩, .string ⟨#[84]⟩, .string ⟨#[80]⟩, .string ⟨#[69]⟩]
  have : q = 0 ∨ q = 1 ∨ q = 2 ∨ q = 3 ∨ q = 4 ∨ q = 5 ∨ q = 6 ∨ q = 7 := by omega
  rcases this with rfl | rfl | rfl | rfl | rfl | rfl | rfl | rfl <;> exact hd.cell rfl
set_option maxRecDepth 10000 in
set_option maxHeartbeats 6400000 in
theorem canon_ten (fn : Nat) (hfn : fn = 0 ∨ fn = 2) (neg : Bool) (sl : Value) (l : List Nat) (ex V lo hi : Int) (w : World) (hir : Ir w sl l) (hF : DF neg l ex V lo hi) (hm : MayV V) (hl : l ≠ []) (h7 : hi - lo ≤ 900) :
    Calls Tryz.prog 18 #[dcv neg sl ex, .int .i64 fn] w (QcRet fn V w) := by
  have MY := Lib.hid (fun (w' : World) (m : Mod [] w w') => spec_may (dcv neg sl ex) V lo hi w' ⟨neg, sl, l, ex, rfl, hir.mod m, hF⟩)
  obtain ⟨a, c, rfl, -, -⟩ := hir.form
  have hge := hF.ge hl
  have hle := hF.le hl
  have hxm : -3 ≤ ex := ((hF.mult (c := -3) (by decide)).1 hm.2).resolve_left hl
  have hV0 : V ≠ 0 := fun h => hl (hF.eq0.1 h)
  obtain ⟨E, hE⟩ : ∃ E, E = (ex + 300) / 3 * 3 - 300 := ⟨_, rfl⟩
  have hE3 : E % 3 = 0 := by omega
  have hEx : E ≤ ex ∧ ex < E + 3 := by omega
  have hcn := hF.cn hl hE3 hEx.1 hEx.2 (by omega)
  have hEf := hcn.fine hV0 hm.1 hm.2
  obtain ⟨M, hM⟩ : ∃ M, M = sg neg * (dv l : Int) * (10 ^ (ex - E).toNat : Nat) := ⟨_, rfl⟩
  rw [← hM] at hcn hEf
  have hb := hF.bhi
  have TX := Lib.hid (fun (w' : World) (m : Mod [] w w') => spec_text (dcv neg (.slice a l.length c) (ex - E)) _ (ex - E) (ex - E + l.length) M w' ⟨neg, _, l, ex - E, rfl, hir.mod m, hF.at hl (by omega) (Int.le_refl _) (by omega)⟩ (by rw [DF.int (by omega), hM]) (by omega) (by omega) (by omega))
  have HH := Lib.hid (And.intro hm (And.intro hcn (And.intro hV0 (And.intro hEf (And.intro hE3 (And.intro hEx hE))))))
  have mA : Mod [] w (w.alloc (.cells #[.bool neg, .slice a l.length c, .int .i64 ex] 27)) := (Mod.refl [] w).alloc _
  have hd := Hd.new w 27 #[.bool neg, .slice a l.length c, .int .i64 ex]
  have t1 : ((l.length : Int) == 0) = false := by simp; exact hl
  have X1 := Lib.hid <| show wrap64 (ex + 300) = ex + 300 from w64 rfl (by omega) (by omega)
  obtain ⟨e3, he3⟩ : ∃ e3, e3 = (ex + 300) / 3 := ⟨_, rfl⟩
  have X2 := Lib.hid <| show wrap64 ((ex + 300).tdiv 3) = e3 from w64 (by rw [Int.tdiv_eq_ediv_of_nonneg (by omega), he3]) (by omega) (by omega)
  have X3 := Lib.hid <| show wrap64 (e3 * 3) = e3 * 3 from w64 rfl (by omega) (by omega)
  have X4 := Lib.hid <| show wrap64 (e3 * 3 - 300) = E from w64 (by omega) (by omega) (by omega)
  have X5 := Lib.hid <| show wrap64 (ex - E) = ex - E from w64 rfl (by omega) (by omega)
  clear hir hF hm hl h7 hge hle hxm hV0 hE hE3 hEx hcn hEf hM hb he3
  unfold dcv at *
  generalize l.length = n1 at *
  rcases hfn with rfl | rfl
  · go_enter Tryz.func18, Tryz.ntmps18
    go_wp2_with fail
    refine (MY.out _ mA).mono ?_
    rintro _ w1 ⟨⟨b, rfl, hb⟩, m1⟩
    obtain rfl : b = true := hb.2 HH.out.1
    have hd1 := Hd.mod hd m1 (by simp)
    have c0 := hd1.cell (i := 0) rfl
    have c1 := hd1.cell (i := 1) rfl
    have c2 := hd1.cell (i := 2) rfl
    have f2 := hd1.free 2
    have HB := Lib.hid (And.intro (mA.trans m1) hd1)
    clear hb m1 hd hd1 mA
    go_wp2_with fail
    go_quiet (fail)
    have hd2 := Hd.mod HB.out.2 (((Mod.refl [] w1).alloc (.cells #[.bool false, .slice a n1 c, .int .i64 ex] 27)).drewN nq) (by simp)
    have mw2 := HB.out.1.trans (((Mod.refl [] w1).alloc (.cells #[.bool false, .slice a n1 c, .int .i64 ex] 27)).drewN nq)
    generalize ((w1.alloc (.cells #[.bool false, .slice a n1 c, .int .i64 ex] 27)).drewN nq) = W2 at *
    clear c0 c1 c2 f2
    have c0 := hd2.cell (i := 0) rfl
    have c1 := hd2.cell (i := 1) rfl
    have c2 := hd2.cell (i := 2) rfl
    have f2 := hd2.free 2
    have hd3 := hd2.set 2 (.int .i64 (ex - E))
    have d0 := hd3.cell (i := 0) rfl
    have d1 := hd3.cell (i := 1) rfl
    have d2 := hd3.cell (i := 2) rfl
    have m3 : Mod [] w (W2.setCell ⟨w.heap.size, 2, none⟩ (.int .i64 (ex - E))) := mw2.setCell _ (.inr (Nat.le_refl _))
    have TX2 := Lib.hid (TX.out _ m3)
    have M3 := Lib.hid m3
    have x1 := X1.out
    have x2 := X2.out
    have x3 := X3.out
    have x4 := X4.out
    have x5 := X5.out
    clear hd2 mw2 hd3 m3 HB
    go_wp2_with fail
    refine TX2.out.mono ?_
    rintro _ w4 ⟨rfl, m4⟩
    have M4 := Lib.hid (M3.out.trans m4)
    clear m4 TX2 x1 x2 x3 x5 d0 d1 d2 c0 c1 c2 f2
    have g1 : decide (18 < E) = false := by have := HH.out.2.2.2.1; simp; omega
    have g2 : decide (E < -3) = false := by have := HH.out.2.2.2.1; simp; omega
    obtain ⟨tb, htb⟩ : ∃ tb, tb = (⟨(Lib.itoa M).toArray⟩ : ByteArray) := ⟨_, rfl⟩
    have htl : tb.size ≤ 100 := by
      have e : tb.size = (Lib.itoa M).length := by rw [htb]; rfl
      rw [e, itoa_dg, List.length_append]
      have := dg_length_le (n := M.natAbs) (k := 22) (by decide) HH.out.2.2.2.1.2.2
      simp only [dch, List.length_map]
      split <;> simp <;> omega
    rw [← htb]
    have HT := Lib.hid htb
    clear htb
    by_cases hE0 : E = 0
    · subst hE0
      go_wp2_with fail
      go_ret2
      refine ⟨Lib.itoa M, true, by rw [HT.out]; rfl, ⟨fun _ => HH.out.1.ok (by decide), fun _ => rfl⟩, fun _ => ?_, M4.out⟩
      have := can_dec (fn := 0) (by decide) HH.out.2.1 HH.out.2.2.1
      simpa [sfxE, sfxD] using this
    · have g3 : (E == 0) = false := by simpa using hE0
      have HE0 := Lib.hid hE0
      clear hE0
      by_cases hE1 : E < 0
      · have hE3' : E = -3 := by have := HH.out.2.2.2.1; have := HH.out.2.2.2.2.1; omega
        subst hE3'
        have OF := Lib.hid (decimalOf_calls 3 0 w4 (by unfold i64; decide) (by decide) (by decide))
        clear hE1 g3
        go_wp2_with fail
        refine OF.out.mono ?_
        rintro _ w5 ⟨d5, rfl, hd5, m5⟩
        have TT := Lib.hid (spec_text d5 _ _ _ 3 w5 hd5 rfl (by decide) (by decide) (by decide))
        have M5 := Lib.hid (M4.out.trans m5)
        obtain ⟨ng5, sl5, l5, ex5, rfl, i5, -⟩ := hd5
        clear m5 OF i5
        go_wp2_with fail
        refine TT.out.mono ?_
        rintro _ w6 ⟨rfl, m6⟩
        have M6 := Lib.hid (M5.out.trans m6)
        rw [show Lib.itoa 3 = [51] by decide +kernel]
        clear m6 TT
        go_wp2_with fail
        go_ret2
        refine ⟨Lib.itoa M ++ [101, 45, 51], true, ?_, ⟨fun _ => HH.out.1.ok (by decide), fun _ => rfl⟩, fun _ => ?_, M6.out⟩
        · rw [← ba_app, ← HT.out]
          first | rfl | (show _ = Ending.returned (.tuple #[.string (tb ++ (⟨#[101, 45]⟩ ++ ⟨#[51]⟩)), .bool true]); simp [← ByteArray.append_assoc])
        · have := can_dec (fn := 0) (by decide) HH.out.2.1 HH.out.2.2.1
          rwa [if_pos rfl, show sfxE (-3) = [101, 45, 51] by decide +kernel] at this
      · have g4 : decide (E < 0) = false := by simp; omega
        have OF := Lib.hid (decimalOf_calls E 0 w4 (by have := HH.out.2.2.2.1; unfold i64; omega) (by decide) (by decide))
        have HE1 := Lib.hid hE1
        clear hE1
        go_wp2_with fail
        refine OF.out.mono ?_
        rintro _ w5 ⟨d5, rfl, hd5, m5⟩
        have TT := Lib.hid (spec_text d5 _ _ _ E w5 hd5 rfl (by decide) (by decide) (by decide))
        have M5 := Lib.hid (M4.out.trans m5)
        obtain ⟨ng5, sl5, l5, ex5, rfl, i5, -⟩ := hd5
        clear m5 OF i5
        go_wp2_with fail
        refine TT.out.mono ?_
        rintro _ w6 ⟨rfl, m6⟩
        have M6 := Lib.hid (M5.out.trans m6)
        obtain ⟨eb, heb⟩ : ∃ eb, eb = (⟨(Lib.itoa E).toArray⟩ : ByteArray) := ⟨_, rfl⟩
        have hel : eb.size ≤ 100 := by
          have e : eb.size = (Lib.itoa E).length := by rw [heb]; rfl
          rw [e, itoa_dg, List.length_append]
          have h8 : (10 : Nat) ^ 22 = 10000000000000000000000 := by decide
          have hE22 : E.natAbs < 10 ^ 22 := by have := HH.out.2.2.2.1; omega
          have := dg_length_le (n := E.natAbs) (k := 22) (by decide) hE22
          simp only [dch, List.length_map]
          split <;> simp <;> omega
        rw [← heb]
        have HEB := Lib.hid heb
        clear m6 TT heb
        go_wp2_with fail
        go_ret2
        refine ⟨Lib.itoa M ++ (101 :: Lib.itoa E), true, ?_, ⟨fun _ => HH.out.1.ok (by decide), fun _ => rfl⟩, fun _ => ?_, M6.out⟩
        · have e1 := ba_app (Lib.itoa M) [101]
          have e2 := ba_app (Lib.itoa M ++ [101]) (Lib.itoa E)
          rw [← HT.out] at e1
          rw [← e1, ← HEB.out, List.append_assoc] at e2
          rw [show Lib.itoa M ++ 101 :: Lib.itoa E = Lib.itoa M ++ ([101] ++ Lib.itoa E) by rfl, ← e2]
          rfl
        · have := can_dec (fn := 0) (by decide) HH.out.2.1 HH.out.2.2.1
          rwa [if_pos rfl, sfxE, if_neg HE0.out] at this
  · go_enter Tryz.func18, Tryz.ntmps18
    go_wp2_with fail
    refine (MY.out _ mA).mono ?_
    rintro _ w1 ⟨⟨b, rfl, hb⟩, m1⟩
    obtain rfl : b = true := hb.2 HH.out.1
    have hd1 := Hd.mod hd m1 (by simp)
    have c0 := hd1.cell (i := 0) rfl
    have c1 := hd1.cell (i := 1) rfl
    have c2 := hd1.cell (i := 2) rfl
    have f2 := hd1.free 2
    have HB := Lib.hid (And.intro (mA.trans m1) hd1)
    clear hb m1 hd hd1 mA
    go_wp2_with fail
    go_quiet (fail)
    have hd2 := Hd.mod HB.out.2 (((Mod.refl [] w1).alloc (.cells #[.bool false, .slice a n1 c, .int .i64 ex] 27)).drewN nq) (by simp)
    have mw2 := HB.out.1.trans (((Mod.refl [] w1).alloc (.cells #[.bool false, .slice a n1 c, .int .i64 ex] 27)).drewN nq)
    generalize ((w1.alloc (.cells #[.bool false, .slice a n1 c, .int .i64 ex] 27)).drewN nq) = W2 at *
    clear c0 c1 c2 f2
    have c0 := hd2.cell (i := 0) rfl
    have c1 := hd2.cell (i := 1) rfl
    have c2 := hd2.cell (i := 2) rfl
    have f2 := hd2.free 2
    have hd3 := hd2.set 2 (.int .i64 (ex - E))
    have d0 := hd3.cell (i := 0) rfl
    have d1 := hd3.cell (i := 1) rfl
    have d2 := hd3.cell (i := 2) rfl
    have m3 : Mod [] w (W2.setCell ⟨w.heap.size, 2, none⟩ (.int .i64 (ex - E))) := mw2.setCell _ (.inr (Nat.le_refl _))
    have TX2 := Lib.hid (TX.out _ m3)
    have M3 := Lib.hid m3
    have x1 := X1.out
    have x2 := X2.out
    have x3 := X3.out
    have x4 := X4.out
    have x5 := X5.out
    clear hd2 mw2 hd3 m3 HB
    go_wp2_with fail
    refine TX2.out.mono ?_
    rintro _ w4 ⟨rfl, m4⟩
    have M4 := Lib.hid (M3.out.trans m4)
    clear m4 TX2 x1 x2 x3 x5 d0 d1 d2 c0 c1 c2 f2
    have g1 : decide (18 < E) = false := by have := HH.out.2.2.2.1; simp; omega
    have g2 : decide (E < -3) = false := by have := HH.out.2.2.2.1; simp; omega
    obtain ⟨tb, htb⟩ : ∃ tb, tb = (⟨(Lib.itoa M).toArray⟩ : ByteArray) := ⟨_, rfl⟩
    have htl : tb.size ≤ 100 := by
      have e : tb.size = (Lib.itoa M).length := by rw [htb]; rfl
      rw [e, itoa_dg, List.length_append]
      have := dg_length_le (n := M.natAbs) (k := 22) (by decide) HH.out.2.2.2.1.2.2
      simp only [dch, List.length_map]
      split <;> simp <;> omega
    rw [← htb]
    have HT := Lib.hid htb
    clear htb
    by_cases hE0 : E = 0
    · subst hE0
      go_wp2_with fail
      go_ret2
      refine ⟨Lib.itoa M, true, by rw [HT.out]; rfl, ⟨fun _ => HH.out.1.ok (by decide), fun _ => rfl⟩, fun _ => ?_, M4.out⟩
      have := can_dec (fn := 2) (by decide) HH.out.2.1 HH.out.2.2.1
      simpa [sfxE, sfxD] using this
    · have g3 : (E == 0) = false := by simpa using hE0
      have HE0 := Lib.hid hE0
      clear hE0
      obtain ⟨q, hq⟩ : ∃ q : Nat, (q : Int) = E / 3 + 1 := ⟨(E / 3 + 1).toNat, by have := HH.out.2.2.2.1; omega⟩
      have hq8 : q < 8 := by have := HH.out.2.2.2.1; omega
      have CE := fun X => cell_sfx X q hq8
      have hEq : (q : Int) * 3 - 3 = E := by have := HH.out.2.2.2.2.1; omega
      rw [hEq] at CE
      have y1 : wrap64 (E.tdiv 3) = (q : Int) - 1 := w64 (by
        have h3 := HH.out.2.2.2.2.1
        have hE : E = ((q : Int) - 1) * 3 := by omega
        rw [hE, Int.mul_tdiv_cancel _ (by decide)]) (by omega) (by omega)
      obtain ⟨sb, hsb⟩ : ∃ sb, sb = sfS E := ⟨_, rfl⟩
      have hsl : sb.size ≤ 1 := by
        rw [hsb]
        show (sfxD E).length ≤ 1
        unfold sfxD
        repeat' split
        all_goals simp
      rw [← hsb] at CE
      have HS := Lib.hid hsb
      clear hsb hq hEq
      go_wp2_with fail
      go_ret2
      refine ⟨Lib.itoa M ++ sfxD E, true, ?_, ⟨fun _ => HH.out.1.ok (by decide), fun _ => rfl⟩, fun _ => ?_, M4.out.alloc _⟩
      · rw [← ba_app, ← HT.out]
        have : (⟨(sfxD E).toArray⟩ : ByteArray) = sb := HS.out.symm
        rw [this]; rfl
      · have := can_dec (fn := 2) (by decide) HH.out.2.1 HH.out.2.2.1
        rwa [if_neg (by decide)] at this
end Go.Proofs.YtcpjclakdpjjfaaGreatDoor
