/- Numbers: sign, the opposite, a digit from behind, the digits down to a power of ten (spec/quantities.go: DecimalSign, DecimalNeg, at, wide). How two numbers stand (spec/quantities.go: larger, DecimalCmp). The digits down to a power of ten (spec/quantities.go: wide). Numbers from int64 and from texts (spec/quantities.go: DecimalOf, DecimalRead). Products (spec/quantities.go: DecimalTimes). -/
import Derived.Test.YtcpjclakdpjjfaaGreatDoorW10
import Derived.Deep.RegionHeld3
import Derived.StillTailTactics
import Derived.Deep.CutRange
namespace Go.Proofs.YtcpjclakdpjjfaaGreatDoor
open Go.RowKit Wd Dg
/-- -1, 0 or 1. -/
def sgV (V : Int) : Int := if V < 0 then -1 else if V = 0 then 0 else 1
theorem spec_sign (d : Value) (V lo hi : Int) (w : World) (h : Dc w d V lo hi) : Calls Tryz.prog 12 #[d] w fun e w' => e = .returned (.int .i64 (sgV V)) ∧ Mod [] w w' := by
  obtain ⟨neg, sl, l, ex, rfl, hir, hF⟩ := h
  obtain ⟨a, c, rfl, hc1, hc2⟩ := hir.form
  have hv0 := hF.eq0
  have hvn := hF.neg
  unfold dcv
  have HV : ∀ x : Int, (x = if l = [] then 0 else if neg then -1 else 1) → x = sgV V := fun x hx => by
    rw [hx]
    unfold sgV
    by_cases h0 : V = 0
    · rw [if_pos (hv0.1 h0), h0]; rfl
    · rw [if_neg (fun h => h0 (hv0.2 h)), hvn]
      by_cases h1 : V < 0 <;> simp [h1, h0]
  have HH := Lib.hid HV
  clear HV hv0 hvn hir hF hc1 hc2
  rcases l with _ | ⟨x, r⟩
  · go_enter Tryz.func12, Tryz.ntmps12
    go_wp2_with fail
    go_ret
    exact ⟨by rw [← HH.out 0 (by simp)]; rfl, (Mod.refl [] w).alloc _⟩
  · simp only [List.length_cons]
    cases neg
    all_goals
      go_enter Tryz.func12, Tryz.ntmps12
      go_wp2_with fail
      go_ret
      exact ⟨by rw [← HH.out _ rfl]; rfl, (Mod.refl [] w).alloc _⟩
theorem Dc.negate {w w' : World} {neg : Bool} {sl : Value} {l : List Nat} {ex V lo hi : Int} (hir : Ir w sl l) (hF : DF neg l ex V lo hi) (m : Mod [] w w') : Dc w' (dcv (if l = [] then neg else !neg) sl ex) (-V) lo hi := by
  refine ⟨_, sl, l, ex, rfl, hir.mod m, ⟨hF.nd, ?_, fun h => ?_, hF.ge, hF.le, hF.blo, hF.bhi⟩⟩
  · rw [hF.v]
    by_cases h : l = []
    · rw [h, dv_nil]; simp
    · rw [if_neg h]
      cases neg
      · simp [sg, Int.neg_mul]
      · simp [sg, Int.neg_mul]
  · rw [if_pos h]; exact hF.zero h
end Go.Proofs.YtcpjclakdpjjfaaGreatDoor
namespace Go.Proofs.YtcpjclakdpjjfaaGreatDoor
open Go.RowKit Wd Dg
def cmpV (a b : Int) : Int := if a < b then -1 else if b < a then 1 else 0
theorem cmpV_lt {a b : Int} (h : a < b) : cmpV a b = -1 := by simp [cmpV, h]
theorem cmpV_gt {a b : Int} (h : b < a) : cmpV a b = 1 := by simp [cmpV, h]; omega
theorem cmpV_eq {a b : Int} (h : a = b) : cmpV a b = 0 := by simp [cmpV, h]
/-- A digit where there is one, else 0: its cell in a row. -/
theorem getD_cell {l : List Nat} {i : Nat} (hi : i < l.length) : l.getD i 0 = l[i] := by rw [List.getD_eq_getElem?_getD, List.getElem?_eq_getElem hi, Option.getD_some]
theorem getD_out {l : List Nat} {i : Nat} (hi : l.length ≤ i) : l.getD i 0 = 0 := by rw [List.getD_eq_getElem?_getD, List.getElem?_eq_none hi]; rfl
set_option maxRecDepth 10000 in
set_option maxHeartbeats 3200000 in
theorem larger_calls (d1 d2 : Value) (V W lo hi lo' hi' : Int) (w : World) (h : Dc w d1 V lo hi) (k : Dc w d2 W lo' hi') (hV : V ≠ 0) (hW : W ≠ 0) (hlo : -400 ≤ lo ∧ -400 ≤ lo') :
    Calls Tryz.prog 49 #[d1, d2] w fun e w' => e = .returned (.int .i64 (cmpV V.natAbs W.natAbs)) ∧ Mod [] w w' := by
  obtain ⟨neg, sl, l, ex, rfl, hir, hF⟩ := h
  obtain ⟨neg', sl', r, ey, rfl, kir, kF⟩ := k
  have hl : l ≠ [] := fun h => hV (hF.eq0.2 h)
  have hr : r ≠ [] := fun h => hW (kF.eq0.2 h)
  obtain ⟨g, o, c, rfl, hc1, hc2, hg, hcl⟩ := hir.cells hl
  obtain ⟨g', o', c', rfl, kc1, kc2, kg, kcl⟩ := kir.cells hr
  have b1 := hF.ge hl; have b2 := hF.le hl; have b3 := kF.ge hr; have b4 := kF.le hr
  have b5 := hF.bhi; have b6 := kF.bhi
  obtain ⟨x, hx⟩ : ∃ x, x = (l.length : Int) + ex := ⟨_, rfl⟩
  obtain ⟨y, hy⟩ : ∃ y, y = (r.length : Int) + ey := ⟨_, rfl⟩
  have t1 : IntKind.i64.wrap ((l.length : Int) + ex) = x := by rw [IntKind.wrap_i64]; omega
  have t2 : IntKind.i64.wrap ((r.length : Int) + ey) = y := by rw [IntKind.wrap_i64]; omega
  have mA : Mod [] w ((w.alloc (.cells #[.bool neg, .slice (some ⟨g, o, none⟩) l.length c, .int .i64 ex] 27)).alloc (.cells #[.bool neg', .slice (some ⟨g', o', none⟩) r.length c', .int .i64 ey] 27)) := ((Mod.refl [] w).alloc _).alloc _
  have A1 : ∀ i (hi : i < l.length), ((w.alloc (.cells #[.bool neg, .slice (some ⟨g, o, none⟩) l.length c, .int .i64 ex] 27)).alloc (.cells #[.bool neg', .slice (some ⟨g', o', none⟩) r.length c', .int .i64 ey] 27)).cell? ⟨g, o + i, none⟩ = some (.int .i64 ((l.getD i 0 : Nat) : Int)) := fun i hi => by rw [getD_cell hi]; exact (mA.cell (p := ⟨g, o + i, none⟩) hg.lt (by simp)).trans (hcl i hi)
  have A2 : ∀ i (hi : i < r.length), ((w.alloc (.cells #[.bool neg, .slice (some ⟨g, o, none⟩) l.length c, .int .i64 ex] 27)).alloc (.cells #[.bool neg', .slice (some ⟨g', o', none⟩) r.length c', .int .i64 ey] 27)).cell? ⟨g', o' + i, none⟩ = some (.int .i64 ((r.getD i 0 : Nat) : Int)) := fun i hi => by rw [getD_cell hi]; exact (mA.cell (p := ⟨g', o' + i, none⟩) kg.lt (by simp)).trans (kcl i hi)
  have H0 := Lib.hid (And.intro hF (And.intro kF (And.intro hl (And.intro hr (And.intro hx (And.intro hy mA))))))
  have HA := Lib.hid (And.intro A1 A2)
  have HB := Lib.hid (show l.length ≤ 2000 ∧ r.length ≤ 2000 by omega)
  clear hF kF hl hr hx hy mA A1 A2 hcl kcl hg kg hir kir b1 b2 b3 b4 b5 b6 hV hW hlo
  unfold dcv
  rcases Int.lt_trichotomy x y with hxy | hxy | hxy
  · have u1 : (x == y) = false := by simp; omega
    have u2 : decide (x < y) = true := by simpa using hxy
    have HX := Lib.hid hxy
    clear hxy
    go_enter Tryz.func49, Tryz.ntmps49
    go_wp2_with fail
    go_quiet (fail)
    go_wp2_with fail
    go_ret
    obtain ⟨k1, k2, k3, k4, k5, k6, k7⟩ := H0.out
    exact ⟨by rw [cmpV_lt (by have := k1.lt_len k2 k3 k4 (by have := HX.out; omega); omega)]; rfl, k7.drewN _⟩
  · subst hxy
    go_enter Tryz.func49, Tryz.ntmps49
    go_wp2_with fail
    go_quiet (fail)
    go_wp2_with fail
    have p1 := Hd.cell (Hd.mod (Hd.new w 27 #[.bool neg, .slice (some ⟨g, o, none⟩) l.length c, .int .i64 ex]) ((Mod.refl [] _).alloc (.cells #[.bool neg', .slice (some ⟨g', o', none⟩) r.length c', .int .i64 ey] 27)) (by simp)) (i := 1) rfl
    have p2 := Hd.cell (Hd.new (w.alloc (.cells #[.bool neg, .slice (some ⟨g, o, none⟩) l.length c, .int .i64 ex] 27)) 27 #[.bool neg', .slice (some ⟨g', o', none⟩) r.length c', .int .i64 ey]) (i := 1) rfl
    rw [show (w.alloc (.cells #[.bool neg, .slice (some ⟨g, o, none⟩) l.length c, .int .i64 ex] 27)).heap.size = w.heap.size + 1 by simp] at p2
    obtain ⟨k1, k2, k3, k4, k5, k6, k7⟩ := H0.out
    have HM := Lib.hid (k7.drewN nq)
    have FF := Lib.hid (show (∀ i, (∀ j, j < i → l.getD j 0 = r.getD j 0) → l.getD i 0 < r.getD i 0 → cmpV V.natAbs W.natAbs = -1) ∧ (∀ i, (∀ j, j < i → l.getD j 0 = r.getD j 0) → r.getD i 0 < l.getD i 0 → cmpV V.natAbs W.natAbs = 1) ∧ ((∀ j, j < l.length ∨ j < r.length → l.getD j 0 = r.getD j 0) → cmpV V.natAbs W.natAbs = 0) from
      ⟨fun i h1 h2 => cmpV_lt (by have := k1.lt_part k2 k3 k4 (by omega) h1 h2; omega), fun i h1 h2 => cmpV_gt (by have := k2.lt_part k1 k4 k3 (by omega) (fun j hj => (h1 j hj).symm) h2; omega), fun h1 => cmpV_eq (by have := k1.same k2 k3 k4 (by omega) h1; omega)⟩)
    have FO := Lib.hid (show (∀ i, l.length ≤ i → l.getD i 0 = 0) ∧ (∀ i, r.length ≤ i → r.getD i 0 = 0) from ⟨fun i h => getD_out h, fun i h => getD_out h⟩)
    clear k1 k2 k3 k4 k5 k6 k7 H0 t1 t2
    generalize l.length = n1 at *
    generalize r.length = n2 at *
    generalize (w.alloc (.cells #[.bool neg, .slice (some ⟨g, o, none⟩) n1 c, .int .i64 ex] 27)).alloc (.cells #[.bool neg', .slice (some ⟨g', o', none⟩) n2 c', .int .i64 ey] 27) = W0 at *
    go_loop [7] (fun t7 => ∃ i : Nat, t7 = .int .i64 i ∧ i ≤ 2000 ∧ ∀ j, j < i → l.getD j 0 = r.getD j 0) (fun t7 => 2001 - (intOf t7).toNat)
    case atStart => exact ⟨0, rfl, by omega, fun j hj => by omega⟩
    case round =>
      obtain ⟨i, rfl, hi2, hj⟩ := hrel
      obtain ⟨a, ha⟩ : ∃ a, a = l.getD i 0 := ⟨_, rfl⟩
      obtain ⟨b, hb⟩ : ∃ b, b = r.getD i 0 := ⟨_, rfl⟩
      have e1 := HA.out.1 i
      have e2 := HA.out.2 i
      have z1 := FO.out.1 i
      have z2 := FO.out.2 i
      rw [← ha] at e1 z1
      rw [← hb] at e2 z2
      have HJ := Lib.hid (And.intro hj (And.intro ha hb))
      clear hj ha hb
      have HB1 := HB.out
      by_cases i1 : i < n1
      · replace e1 := e1 i1
        have d1 : decide (i < n1) = true := by simpa using i1
        by_cases i2 : i < n2
        · replace e2 := e2 i2
          have d2 : decide (i < n2) = true := by simpa using i2
          clear z1 z2
          rcases Nat.lt_trichotomy a b with hab | hab | hab
          · have HX := Lib.hid hab
            have q1 : ((a : Int) == (b : Int)) = false := by simp; omega
            have q2 : decide (a < b) = true := by simpa using hab
            clear hab
            go_wp2_with fail
            go_ret
            exact ⟨by rw [FF.out.1 i HJ.out.1 (by have := HJ.out.2; have := HX.out; omega)]; rfl, HM.out⟩
          · have HX := Lib.hid hab
            subst hab
            go_wp2_with fail
            go_round
            case rel => exact ⟨i + 1, by go_num, by have := HB.out; omega, fun j hj => by rcases Nat.lt_succ_iff_lt_or_eq.1 hj with h | h; exact HJ.out.1 j h; rw [h, ← HJ.out.2.1, ← HJ.out.2.2]⟩
            case measure => simp [intOf]; have := HB.out; omega
          · have HX := Lib.hid hab
            have q1 : ((a : Int) == (b : Int)) = false := by simp; omega
            have q2 : decide (a < b) = false := by simp; omega
            clear hab
            go_wp2_with fail
            go_ret
            exact ⟨by rw [FF.out.2.1 i HJ.out.1 (by have := HJ.out.2; have := HX.out; omega)]; rfl, HM.out⟩
        · have d2 : decide (i < n2) = false := by simp; omega
          obtain rfl := z2 (by omega)
          clear z1 z2 e2
          rcases Nat.eq_zero_or_pos a with hab | hab
          · have HX := Lib.hid hab
            subst hab
            go_wp2_with fail
            go_round
            case rel => exact ⟨i + 1, by go_num, by have := HB.out; omega, fun j hj => by rcases Nat.lt_succ_iff_lt_or_eq.1 hj with h | h; exact HJ.out.1 j h; rw [h, ← HJ.out.2.1, ← HJ.out.2.2]⟩
            case measure => simp [intOf]; have := HB.out; omega
          · have HX := Lib.hid hab
            have q1 : ((a : Int) == 0) = false := by simp; omega
            have q2 : decide ((a : Int) < 0) = false := by simp
            clear hab
            go_wp2_with fail
            go_ret
            exact ⟨by rw [FF.out.2.1 i HJ.out.1 (by have := HJ.out.2; have := HX.out; omega)]; rfl, HM.out⟩
      · have d1 : decide (i < n1) = false := by simp; omega
        obtain rfl := z1 (by omega)
        clear e1
        by_cases i2 : i < n2
        · replace e2 := e2 i2
          have d2 : decide (i < n2) = true := by simpa using i2
          clear z1 z2
          rcases Nat.eq_zero_or_pos b with hab | hab
          · have HX := Lib.hid hab
            subst hab
            go_wp2_with fail
            go_round
            case rel => exact ⟨i + 1, by go_num, by have := HB.out; omega, fun j hj => by rcases Nat.lt_succ_iff_lt_or_eq.1 hj with h | h; exact HJ.out.1 j h; rw [h, ← HJ.out.2.1, ← HJ.out.2.2]⟩
            case measure => simp [intOf]; have := HB.out; omega
          · have HX := Lib.hid hab
            have q1 : ((0 : Int) == (b : Int)) = false := by simp; omega
            have q2 : decide (0 < b) = true := by simpa using hab
            clear hab
            go_wp2_with fail
            go_ret
            exact ⟨by rw [FF.out.1 i HJ.out.1 (by have := HJ.out.2; have := HX.out; omega)]; rfl, HM.out⟩
        · have d2 : decide (i < n2) = false := by simp; omega
          have HX := Lib.hid (And.intro i1 i2)
          clear z1 z2 e2 i1 i2
          go_wp2_with fail
          go_ret
          exact ⟨by rw [FF.out.2.2 (fun j hj => HJ.out.1 j (by have := HX.out; omega))]; rfl, HM.out⟩
  · have u1 : (x == y) = false := by simp; omega
    have u2 : decide (x < y) = false := by simp; omega
    have HX := Lib.hid hxy
    clear hxy
    go_enter Tryz.func49, Tryz.ntmps49
    go_wp2_with fail
    go_quiet (fail)
    go_wp2_with fail
    go_ret
    obtain ⟨k1, k2, k3, k4, k5, k6, k7⟩ := H0.out
    exact ⟨by rw [cmpV_gt (by have := k2.lt_len k1 k4 k3 (by have := HX.out; omega); omega)]; rfl, k7.drewN _⟩
set_option maxRecDepth 10000 in
set_option maxHeartbeats 3200000 in
theorem spec_cmp (d1 d2 : Value) (V W lo hi lo' hi' : Int) (w : World) (h : Dc w d1 V lo hi) (k : Dc w d2 W lo' hi') :
    Calls Tryz.prog 22 #[d1, d2] w fun e w' => e = .returned (.int .i64 (cmpV V W)) ∧ Mod [] w w' := by
  have S1 := Lib.hid (fun (w' : World) (m : Mod [] w w') => spec_sign d1 V lo hi w' (h.mod m))
  have S2 := Lib.hid (fun (w' : World) (m : Mod [] w w') => spec_sign d2 W lo' hi' w' (k.mod m))
  have hb : -400 ≤ lo ∧ -400 ≤ lo' := by
    obtain ⟨_, _, _, _, -, -, hF⟩ := h
    obtain ⟨_, _, _, _, -, -, kF⟩ := k
    exact ⟨hF.blo, kF.blo⟩
  have LG := Lib.hid (fun (w' : World) (m : Mod [] w w') (hV : V ≠ 0) (hW : W ≠ 0) => larger_calls d1 d2 V W lo hi lo' hi' w' (h.mod m) (k.mod m) hV hW hb)
  obtain ⟨neg, sl, l, ex, rfl, hir, hF⟩ := h
  obtain ⟨neg', sl', r, ey, rfl, kir, kF⟩ := k
  obtain ⟨g, c, rfl, -, -⟩ := hir.form
  obtain ⟨g', c', rfl, -, -⟩ := kir.form
  clear hir kir hF kF hb
  unfold dcv at *
  have mA : Mod [] w ((w.alloc (.cells #[.bool neg, .slice g l.length c, .int .i64 ex] 27)).alloc (.cells #[.bool neg', .slice g' r.length c', .int .i64 ey] 27)) := ((Mod.refl [] w).alloc _).alloc _
  have p1 : Hd ((w.alloc (.cells #[.bool neg, .slice g l.length c, .int .i64 ex] 27)).alloc (.cells #[.bool neg', .slice g' r.length c', .int .i64 ey] 27)) w.heap.size 27 #[.bool neg, .slice g l.length c, .int .i64 ex] := Hd.mod (Hd.new w 27 _) ((Mod.refl [] _).alloc _) (by simp)
  have p2 := Hd.new (w.alloc (.cells #[.bool neg, .slice g l.length c, .int .i64 ex] 27)) 27 #[.bool neg', .slice g' r.length c', .int .i64 ey]
  rw [show (w.alloc (.cells #[.bool neg, .slice g l.length c, .int .i64 ex] 27)).heap.size = w.heap.size + 1 by simp] at p2
  have HP := Lib.hid (fun (w' : World) (m : Mod [] ((w.alloc (.cells #[.bool neg, .slice g l.length c, .int .i64 ex] 27)).alloc (.cells #[.bool neg', .slice g' r.length c', .int .i64 ey] 27)) w') => show (w'.cell? ⟨w.heap.size, 0, none⟩ = some (.bool neg) ∧ w'.cell? ⟨w.heap.size, 1, none⟩ = some (.slice g l.length c) ∧ w'.cell? ⟨w.heap.size, 2, none⟩ = some (.int .i64 ex)) ∧ (w'.cell? ⟨w.heap.size + 1, 0, none⟩ = some (.bool neg') ∧ w'.cell? ⟨w.heap.size + 1, 1, none⟩ = some (.slice g' r.length c') ∧ w'.cell? ⟨w.heap.size + 1, 2, none⟩ = some (.int .i64 ey)) from
    ⟨⟨Hd.cell (p1.mod m (by simp)) rfl, Hd.cell (p1.mod m (by simp)) rfl, Hd.cell (p1.mod m (by simp)) rfl⟩, ⟨Hd.cell (Hd.mod p2 m (by simp)) rfl, Hd.cell (Hd.mod p2 m (by simp)) rfl, Hd.cell (Hd.mod p2 m (by simp)) rfl⟩⟩)
  have MA := Lib.hid mA
  clear p1 p2 mA
  go_enter Tryz.func22, Tryz.ntmps22
  go_wp2_with fail
  generalize (w.alloc (.cells #[.bool neg, .slice g l.length c, .int .i64 ex] 27)).alloc (.cells #[.bool neg', .slice g' r.length c', .int .i64 ey] 27) = WW at *
  obtain ⟨⟨a0, a1, a2⟩, ⟨b0, b1, b2⟩⟩ := HP.out WW (Mod.refl [] WW)
  go_region_held3 (fun w' => (w'.cell? ⟨w.heap.size, 0, none⟩ = some (.bool neg) ∧ w'.cell? ⟨w.heap.size, 1, none⟩ = some (.slice g l.length c) ∧ w'.cell? ⟨w.heap.size, 2, none⟩ = some (.int .i64 ex)) ∧ (w'.cell? ⟨w.heap.size + 1, 0, none⟩ = some (.bool neg') ∧ w'.cell? ⟨w.heap.size + 1, 1, none⟩ = some (.slice g' r.length c') ∧ w'.cell? ⟨w.heap.size + 1, 2, none⟩ = some (.int .i64 ey))) (go_keep)
    (first | (go_at_call 12; first | (refine (S1.out _ (MA.out.drewN _)).mono ?_; rintro e w2 ⟨rfl, m2⟩; have M2 := Lib.hid (((Mod.refl [] WW).drewN _).trans m2); obtain ⟨⟨c0, c1, c2⟩, ⟨e0, e1, e2⟩⟩ := HP.out w2 M2.out; clear m2 S1) | (refine (S2.out _ (MA.out.trans M2.out)).mono ?_; rintro e w3 ⟨rfl, m3⟩; have M3 := Lib.hid (M2.out.trans m3); obtain ⟨⟨f0, f1, f2⟩, ⟨g0, g1, g2⟩⟩ := HP.out w3 M3.out; clear m3)))
  have HL := Lib.hid (fun hV hW => LG.out w3 (MA.out.trans M3.out) hV hW)
  replace M3 := Lib.hid (MA.out.trans M3.out)
  clear HP S2 LG M2
  rcases Int.lt_trichotomy V 0 with hV | hV | hV
  · have sV : sgV V = -1 := by simp [sgV, hV]
    rw [sV]
    rcases Int.lt_trichotomy W 0 with hW | hW | hW
    · have sW : sgV W = -1 := by simp [sgV, hW]
      rw [sW]
      have CC := Lib.hid (HL.out (by omega) (by omega))
      have HV := Lib.hid (show wrap64 (-(cmpV V.natAbs W.natAbs)) = cmpV V W by
        have : wrap64 (-(cmpV V.natAbs W.natAbs)) = -(cmpV V.natAbs W.natAbs) := by
          unfold wrap64 cmpV; split
          · omega
          · split <;> omega
        rw [this]
        rcases Int.lt_trichotomy V W with h | h | h
        · rw [cmpV_lt h, cmpV_gt (by omega)]
        · rw [cmpV_eq h, cmpV_eq (by omega)]; rfl
        · rw [cmpV_gt h, cmpV_lt (by omega)]; rfl)
      clear hV hW sV sW HL
      go_wp2_with fail
      refine CC.out.mono ?_
      rintro _ w4 ⟨rfl, m4⟩
      have M4 := Lib.hid m4
      clear m4
      go_wp2_with fail
      go_ret
      exact ⟨by rw [← HV.out]; rfl, M3.out.trans M4.out⟩
    · have sW : sgV W = 0 := by simp [sgV, hW]
      rw [sW]
      have HV := Lib.hid (cmpV_lt (a := V) (b := W) (by omega))
      clear hV hW sV sW HL
      go_wp2_with fail
      go_ret
      exact ⟨by rw [HV.out]; rfl, M3.out⟩
    · have sW : sgV W = 1 := by simp [sgV]; omega
      rw [sW]
      have HV := Lib.hid (cmpV_lt (a := V) (b := W) (by omega))
      clear hV hW sV sW HL
      go_wp2_with fail
      go_ret
      exact ⟨by rw [HV.out]; rfl, M3.out⟩
  · have sV : sgV V = 0 := by simp [sgV, hV]
    rw [sV]
    rcases Int.lt_trichotomy W 0 with hW | hW | hW
    · have sW : sgV W = -1 := by simp [sgV, hW]
      rw [sW]
      have HV := Lib.hid (cmpV_gt (a := V) (b := W) (by omega))
      clear hV hW sV sW HL
      go_wp2_with fail
      go_ret
      exact ⟨by rw [HV.out]; rfl, M3.out⟩
    · have sW : sgV W = 0 := by simp [sgV, hW]
      rw [sW]
      have HV := Lib.hid (cmpV_eq (a := V) (b := W) (by omega))
      clear hV hW sV sW HL
      go_wp2_with fail
      go_ret
      exact ⟨by rw [HV.out]; rfl, M3.out⟩
    · have sW : sgV W = 1 := by simp [sgV]; omega
      rw [sW]
      have HV := Lib.hid (cmpV_lt (a := V) (b := W) (by omega))
      clear hV hW sV sW HL
      go_wp2_with fail
      go_ret
      exact ⟨by rw [HV.out]; rfl, M3.out⟩
  · have sV : sgV V = 1 := by simp [sgV]; omega
    rw [sV]
    rcases Int.lt_trichotomy W 0 with hW | hW | hW
    · have sW : sgV W = -1 := by simp [sgV, hW]
      rw [sW]
      have HV := Lib.hid (cmpV_gt (a := V) (b := W) (by omega))
      clear hV hW sV sW HL
      go_wp2_with fail
      go_ret
      exact ⟨by rw [HV.out]; rfl, M3.out⟩
    · have sW : sgV W = 0 := by simp [sgV, hW]
      rw [sW]
      have HV := Lib.hid (cmpV_gt (a := V) (b := W) (by omega))
      clear hV hW sV sW HL
      go_wp2_with fail
      go_ret
      exact ⟨by rw [HV.out]; rfl, M3.out⟩
    · have sW : sgV W = 1 := by simp [sgV]; omega
      rw [sW]
      have CC := Lib.hid (HL.out (by omega) (by omega))
      have HV := Lib.hid (show cmpV V.natAbs W.natAbs = cmpV V W by
        rcases Int.lt_trichotomy V W with h | h | h
        · rw [cmpV_lt h, cmpV_lt (by omega)]
        · rw [cmpV_eq h, cmpV_eq (by omega)]
        · rw [cmpV_gt h, cmpV_gt (by omega)])
      clear hV hW sV sW HL
      go_wp2_with fail
      refine CC.out.mono ?_
      rintro _ w4 ⟨rfl, m4⟩
      have M4 := Lib.hid m4
      clear m4
      go_wp2_with fail
      go_ret
      exact ⟨by rw [← HV.out]; rfl, M3.out.trans M4.out⟩
end Go.Proofs.YtcpjclakdpjjfaaGreatDoor
namespace Go.Proofs.YtcpjclakdpjjfaaGreatDoor
open Go.RowKit Wd Dg
/-- A row of one's own of one digit, as a literal lays it. -/
theorem own_one (w : World) (d : Nat) : (w.alloc (.cells #[.int .i64 (d : Int)] 3)).ownsRow w.heap.size 3 1 (.slice (some ⟨w.heap.size, 0, none⟩) 1 1) [d].length (ics [d]) := by
  refine ⟨rfl, .inr ⟨w.heap.size, 1, #[.int .i64 (d : Int)], rfl, Nat.le_refl _, ?_, Nat.le_refl _, by decide, rfl, rfl⟩⟩
  exact Hd.new w 3 _
theorem own_none (w : World) : (w.alloc (.cells #[] 3)).ownsRow w.heap.size 3 1 (.slice (some ⟨w.heap.size, 0, none⟩) 0 0) ([] : List Nat).length (ics []) := by
  refine ⟨rfl, .inr ⟨w.heap.size, 0, #[], rfl, Nat.le_refl _, ?_, Nat.le_refl _, by decide, rfl, rfl⟩⟩
  exact Hd.new w 3 _
theorem own_mods {S : List Nat} {w w' : World} {base : Nat} {v : Value} {l : List Nat} (h : w.ownsRow base 3 1 v l.length (ics l)) (m : Mod S w w') (hS : ∀ k, v.ownBlock = some k → k ∉ S) : w'.ownsRow base 3 1 v l.length (ics l) := by
  obtain ⟨h1, h2⟩ := h
  refine ⟨h1, h2.imp_right ?_⟩
  rintro ⟨g, cap, cur, rfl, e2, e3, e4⟩
  exact ⟨g, cap, cur, rfl, e2, (m.block g (lt_of_heap e3) (hS g rfl)).trans e3, e4⟩
theorem own_lt {w : World} {base : Nat} {v : Value} {l : List Nat} (h : w.ownsRow base 3 1 v l.length (ics l)) : ∀ k, v.ownBlock = some k → base ≤ k ∧ k < w.heap.size := by
  obtain ⟨h1, ⟨rfl, -⟩ | ⟨g, cap, cur, rfl, e2, e3, -⟩⟩ := h
  · intro k hk; cases hk
  · intro k hk
    have : g = k := by simpa [Value.ownBlock] using hk
    subst this
    exact ⟨e2, lt_of_heap e3⟩
/-- One row of one's own behind which another one is laid: what the world has turned. -/
theorem own_grown {w w1 w2 : World} {base : Nat} {v : Value} {l : List Nat} (h : w1.ownsRow base 3 1 v l.length (ics l)) (hb : w.heap.size ≤ base) (m : Mod [] w w1) (hg : w1.grownBy w2 v.ownBlock) : Mod [] w w2 :=
  m.step (S' := v.ownBlock.toList) (Mod.grown hg (fun k hk => by rw [hk]; simp)) (fun x hx => .inr (by
    have : v.ownBlock = some x := by simpa using hx
    exact Nat.le_trans hb (own_lt h x this).1))
/-- Noughts behind a row. -/
def WdSt (w : World) (l : List Nat) (q : Nat) (v : Value) (wr : World) : Prop :=
  wr.ownsRow w.heap.size 3 1 v (l ++ List.replicate q 0).length (ics (l ++ List.replicate q 0)) ∧ Mod [] w wr
set_option maxRecDepth 10000 in
set_option maxHeartbeats 1600000 in
theorem wide_calls (neg : Bool) (sl : Value) (l : List Nat) (ex x : Int) (w : World) (h : Ir w sl l) (hl : l.length ≤ 10000) (h1 : -10000 ≤ ex) (h2 : ex ≤ 10000) (h3 : -10000 ≤ x) (h4 : x ≤ 10000) :
    Calls Tryz.prog 53 #[dcv neg sl ex, .int .i64 x] w fun e w' => ∃ v, e = .returned v ∧ Ir w' v (if l = [] then [] else l ++ List.replicate (ex - x).toNat 0) ∧ Mod [] w w' := by
  obtain ⟨a, c, hsl, -, -⟩ := h.form
  have mA : Mod [] w ((w.alloc (.cells #[.bool neg, .slice a l.length c, .int .i64 ex] 27)).alloc (.cells #[] 3)) := ((Mod.refl [] w).alloc _).alloc _
  obtain ⟨v1, w1, hrun, ho, hg⟩ := append_ir (own_none (w.alloc (.cells #[.bool neg, .slice a l.length c, .int .i64 ex] 27))) (h.mod mA) (by simp; omega) (by simp)
  have hsz : (w.alloc (.cells #[.bool neg, .slice a l.length c, .int .i64 ex] 27)).heap.size = w.heap.size + 1 := by simp
  rw [hsz] at hrun ho hg
  have hw1 : WdSt w l 0 v1 w1 := by
    rw [List.nil_append] at ho
    refine ⟨?_, own_grown (own_none (w.alloc (.cells #[.bool neg, .slice a l.length c, .int .i64 ex] 27))) (by simp) mA (by rw [hsz]; exact hg)⟩
    rw [List.replicate_zero, List.append_nil]
    exact ⟨ho.1, ho.2.imp_right (fun ⟨g, cap, cur, q1, q2, q3⟩ => ⟨g, cap, cur, q1, by omega, q3⟩)⟩
  have hc2 : w1.cell? ⟨w.heap.size, 2, none⟩ = some (.int .i64 ex) := by
    have h5 : Hd ((w.alloc (.cells #[.bool neg, .slice a l.length c, .int .i64 ex] 27)).alloc (.cells #[] 3)) w.heap.size 27 #[.bool neg, .slice a l.length c, .int .i64 ex] := Hd.mod (Hd.new w 27 _) ((Mod.refl [] _).alloc _) (by simp)
    exact Hd.cell (Hd.mod h5 (Mod.grown (S := [w.heap.size + 1]) hg (fun k hk => by
      have : w.heap.size + 1 = k := by simpa [Value.ownBlock] using hk
      simp [this])) (by simp)) (i := 2) rfl
  obtain ⟨R, hR⟩ : ∃ R, R = if l = [] then [] else l ++ List.replicate (ex - x).toNat 0 := ⟨_, rfl⟩
  rw [← hR]
  replace hR := Lib.hid hR
  subst hsl
  have H0 := Lib.hid (And.intro hl (And.intro h1 (And.intro h2 (And.intro h3 (And.intro h4 hw1)))))
  clear h mA ho hg hsz hl h1 h2 h3 h4 hw1
  unfold dcv
  go_enter Tryz.func53, Tryz.ntmps53
  go_wp2_with (at_builtin; refine Lib.wpList_append_run _ rfl _ _ _ _ rfl _ _ rfl rfl _ _ hrun ?_)
  clear hrun hc2
  go_loopw [5, 6] (fun t5 t6 wr => ∃ (q : Nat) (v : Value) (y : Int), v = t5 ∧ t6 = .int .i64 y ∧ y = ex - (q : Int) ∧ (q : Int) ≤ max 0 (ex - x) ∧ (l = [] → q = 0) ∧ WdSt w l q v wr) (fun _ t6 _ => (intOf t6 - x).toNat)
  case atStart => exact ⟨0, v1, ex, rfl, rfl, by simp, by omega, fun _ => rfl, H0.out.2.2.2.2.2⟩
  case round =>
    obtain ⟨q, v, y, hv, rfl, hy, hq, hq0, hst⟩ := hrel
    obtain ⟨av, cv, rfl⟩ := own_form hst.1
    subst hv
    have hN : (l ++ List.replicate q 0).length = l.length + q := by simp
    have HH := Lib.hid (And.intro hst (And.intro hy (And.intro hq hq0)))
    have hqb : (q : Int) ≤ 20000 := by have := H0.out; omega
    have t9 : wrap64 (y - 1) = y - 1 := by have := H0.out; unfold wrap64; omega
    rcases Int.lt_or_le x y with hxy | hxy
    · by_cases hl0 : l = []
      · obtain rfl := hq0 hl0
        have t1 : decide (x < y) = true := by simpa using hxy
        have hN0 : (l ++ List.replicate 0 0).length = 0 := by rw [hl0]; rfl
        have hRe : R = l ++ List.replicate 0 0 := by rw [hR.out, if_pos hl0, hl0]; rfl
        have HF := Lib.hid (And.intro hst hRe)
        rw [hN0] at hst ⊢
        have HN := Lib.hid hN0
        clear hst hy hq hq0 hN hqb hxy hl0 hN0 hRe
        go_wp2_with fail
        go_ret
        exact ⟨_, rfl, by have := Ir.own HF.out.1.1; rw [HN.out] at this; rw [HF.out.2]; exact this, HF.out.1.2⟩
      · have t1 : decide (x < y) = true := by simpa using hxy
        have t2 : decide (0 < (l ++ List.replicate q 0).length) = true := by
          have := List.length_pos_iff.2 hl0
          simp; omega
        have mA : Mod [] w (wr.alloc (.cells #[.int .i64 0] 3)) := hst.2.alloc _
        obtain ⟨v1, w1, hrun, ho, hg⟩ := append_ir (w := wr.alloc (.cells #[.int .i64 0] 3)) (ys := [0]) (own_mods hst.1 ((Mod.refl [] wr).alloc _) (by simp)) (Ir.own (own_one wr 0)) (by rw [hN]; have := H0.out.1; simp; omega) (by have := hst.2.size; simp; omega)
        have hnew : WdSt w l (q + 1) v1 w1 := by
          rw [List.append_assoc, ← List.replicate_succ'] at ho
          exact ⟨ho, own_grown (own_mods hst.1 ((Mod.refl [] wr).alloc _) (by simp)) (Nat.le_refl _) mA hg⟩
        have HN := Lib.hid (And.intro hnew hl0)
        generalize (l ++ List.replicate q 0).length = N at *
        have HX := Lib.hid hxy
        clear hst hy hq hq0 hN hqb hxy hl0 hnew ho hg mA
        go_wp2_with (at_builtin; refine Lib.wpList_append_run _ rfl _ _ _ _ rfl _ _ rfl rfl _ _ hrun ?_)
        go_roundw
        case rel => exact ⟨q + 1, v1, y - 1, rfl, by rw [t9], by have := HH.out; omega, by have := HH.out; have := HX.out; omega, fun h => absurd h HN.out.2, HN.out.1⟩
        case measure => simp only [intOf, t9]; have := HX.out; omega
    · have t1 : decide (x < y) = false := by simp; omega
      have HF := Lib.hid (And.intro hst (show R = l ++ List.replicate q 0 by
        rw [hR.out]
        by_cases hl0 : l = []
        · rw [if_pos hl0, hq0 hl0, hl0]; rfl
        · rw [if_neg hl0, show (ex - x).toNat = q by omega]))
      generalize hNN : (l ++ List.replicate q 0).length = N at hst ⊢
      replace hNN := Lib.hid hNN
      clear hst hy hq hq0 hN hqb hxy
      go_wp2_with fail
      go_ret
      exact ⟨_, rfl, by rw [HF.out.2, ← hNN.out]; exact Ir.own HF.out.1.1, HF.out.1.2⟩
end Go.Proofs.YtcpjclakdpjjfaaGreatDoor
namespace Go.Proofs.YtcpjclakdpjjfaaGreatDoor
open Go.RowKit Wd Dg
/-- Where the loop of DecimalOf stands. -/
def OfSt (w : World) (b U : Nat) (x : Nat) (v : Value) (l : List Nat) (wr : World) : Prop :=
  x = U / 10 ^ l.length ∧ dv l = U % 10 ^ l.length ∧ AD l ∧ l.length ≤ 20 ∧ wr.ownsRow (b + 1) 3 1 v l.length (ics l) ∧ Mod [] w wr ∧ Hd wr b 27 #[.bool false, .slice none 0 0, .int .i64 0]
theorem of_step {U n : Nat} {l : List Nat} (hn : n = l.length) (h : dv l = U % 10 ^ n) : dv (U / 10 ^ n % 10 :: l) = U % 10 ^ (n + 1) := by
  subst hn
  rw [dv_cons, h, Nat.pow_succ, Nat.mod_mul, Nat.mul_comm, Nat.add_comm]
theorem of_turn {w wr : World} {b U y : Nat} {v : Value} {l : List Nat} (hst : OfSt w b U y v l wr) (hU : U < 18446744073709551616) (hy : 0 < y) (hlt : b < wr.heap.size) :
    ∃ v1 w1, (Builtin.append_ #[25, 25] 25 #[.slice (some ⟨wr.heap.size, 0, none⟩) 1 1, v]).run Tryz.prog (wr.alloc (.cells #[.int .i64 ((y : Int) % 10)] 3)) = .ok v1 w1 ∧ OfSt w b U (y / 10) v1 (y % 10 :: l) w1 := by
  obtain ⟨e1, e2, e3, e4, e5, e6, e7⟩ := hst
  have eM : (y : Int) % 10 = ((y % 10 : Nat) : Int) := by omega
  rw [eM]
  have hir : Ir (wr.alloc (.cells #[.int .i64 ((y % 10 : Nat) : Int)] 3)) v l := (Ir.own e5).mod ((Mod.refl [] wr).alloc _)
  obtain ⟨v1, w1, hrun, ho, hg⟩ := append_ir (own_one wr (y % 10)) hir (by simp; omega) (by simp)
  have hl19 : l.length ≤ 19 := by
    rcases Nat.lt_or_ge 19 l.length with h | h
    · exfalso
      have h1 : (10 : Nat) ^ 20 ≤ 10 ^ l.length := Nat.pow_le_pow_right (by decide) h
      have h2 : (10 : Nat) ^ 20 = 100000000000000000000 := by decide
      rw [Nat.div_eq_of_lt (by omega)] at e1
      omega
    · exact h
  have mA : Mod [] w (wr.alloc (.cells #[.int .i64 ((y % 10 : Nat) : Int)] 3)) := e6.alloc _
  have hgm : Mod [wr.heap.size] (wr.alloc (.cells #[.int .i64 ((y % 10 : Nat) : Int)] 3)) w1 := Mod.grown hg (fun k hk => by
    have : wr.heap.size = k := by simpa [Value.ownBlock] using hk
    simp [this])
  refine ⟨v1, w1, hrun, ?_, ?_, e3.cons (by omega), by simp; omega, ?_, own_grown (own_one wr (y % 10)) e6.size mA hg, Hd.mod (Hd.mod e7 ((Mod.refl [] wr).alloc _) (by simp)) hgm (by simp; omega)⟩
  · rw [e1, List.length_cons, Nat.pow_succ, Nat.div_div_eq_div_mul]
  · rw [e1, List.length_cons]; exact of_step rfl e2
  · rw [List.singleton_append] at ho
    exact ⟨ho.1, ho.2.imp_right (fun ⟨g, cap, cur, q1, q2, q3⟩ => ⟨g, cap, cur, q1, by omega, q3⟩)⟩
set_option maxRecDepth 10000 in
set_option maxHeartbeats 3200000 in
theorem decimalOf_calls (n x : Int) (w : World) (hn : i64 n) (h1 : -400 ≤ x) (h2 : x ≤ 900) : Calls Tryz.prog 24 #[.int .i64 n, .int .i64 x] w (DcRet (n * sc x) x (x + 20) w) := by
  obtain ⟨U, hU⟩ : ∃ U, U = n.natAbs := ⟨_, rfl⟩
  have hUB : U < 18446744073709551616 := by unfold i64 at hn; omega
  have key : (∃ m : Nat, IntKind.u64.wrap n = (m : Int) ∧ IntKind.u64.wrap (-(m : Int)) = (U : Int) ∧ decide (n < 0) = true ∧ n = sg true * (U : Int)) ∨ (IntKind.u64.wrap n = (U : Int) ∧ decide (n < 0) = false ∧ n = sg false * (U : Int)) := by
    unfold i64 at hn
    rcases Int.lt_or_le n 0 with h0 | h0
    · refine .inl ⟨(n + 18446744073709551616).toNat, ?_, ?_, by simpa using h0, by simp [sg]; omega⟩
      · rw [IntKind.wrap_u64]; omega
      · rw [IntKind.wrap_u64]; omega
    · refine .inr ⟨?_, by simp; omega, by simp [sg]; omega⟩
      rw [IntKind.wrap_u64]; omega
  have H0 := Lib.hid (And.intro hUB (And.intro h1 h2))
  clear hn h1 h2 hU hUB
  rcases key with ⟨m, t1, t3, t2, hn⟩ | ⟨t1, t2, hn⟩
  · have HN := Lib.hid hn
    clear hn
    go_enter Tryz.func24, Tryz.ntmps24
    go_wp2_with fail
    go_loopw [5, 6] (fun t5 t6 wr => ∃ (y : Nat) (v : Value) (l : List Nat), t5 = .int .u64 y ∧ v = t6 ∧ OfSt w w.heap.size U y v l wr) (fun t5 _ _ => (intOf t5).toNat)
    case atStart => exact ⟨U, _, [], rfl, rfl, by simp, by simp [dv_nil, Nat.mod_one], AD.nil, by simp, World.ownsRow_nil _ _ 3 1, (Mod.refl [] w).alloc _, Hd.new w 27 _⟩
    case round =>
      obtain ⟨y, v, l, rfl, hv, hst⟩ := hrel
      rcases Nat.eq_zero_or_pos y with hy | hy
      · subst hy
        subst hv
        obtain ⟨e1, e2, e3, e4, e5, e6, e7⟩ := hst
        have hdv : dv l = U := by
          rw [e2]
          exact Nat.mod_eq_of_lt ((Nat.div_eq_zero_iff.1 e1.symm).resolve_left (by have := Nat.pow_pos (n := l.length) (show 0 < 10 by decide); omega))
        have DC := Lib.hid (decimal_calls true x v l wr (Ir.own e5) e3 H0.out.2.1 (hi := x + 20) (by omega) (by have := H0.out.2.2; omega))
        rw [hdv, ← HN.out] at DC
        have HE := Lib.hid (And.intro e6 e7)
        clear e1 e2 e3 e4 e5 e6 e7 hdv
        go_wp2_with fail
        refine DC.out.mono ?_
        rintro _ w2 ⟨d, rfl, ⟨ng, sl, l2, ex, rfl, hir, hF⟩, m2⟩
        obtain ⟨av, cv, hsl, -, -⟩ := hir.form
        subst hsl
        have hd2 := Hd.mod HE.out.2 m2 (by simp)
        have FS := Lib.hid (dc_put hd2 (Nat.le_refl _) (HE.out.1.trans m2) hir hF)
        have k0 := hd2.cell (i := 0) rfl
        have k1 := hd2.cell (i := 1) rfl
        have k2 := hd2.cell (i := 2) rfl
        have kf := hd2.free
        clear hir hF m2 hd2 DC
        unfold dcv
        go_wp2_with fail
        obtain ⟨hd, hdc, hmd⟩ := FS.out
        have c0 := hd.cell (i := 0) rfl
        have c1 := hd.cell (i := 1) rfl
        have c2 := hd.cell (i := 2) rfl
        refine bodyPost_ret (v := dcv ng (.slice av l2.length cv) ex) (by unfold dcv; simp [results, Tryz.results24, go_sem, c0, c1, c2]; try rfl) rfl ?_
        exact ⟨_, rfl, hdc, hmd⟩
      · obtain ⟨v1, w1, hrun, hnew⟩ := of_turn hst H0.out.1 hy (Hd.lt hst.2.2.2.2.2.2)
        have HS := Lib.hid hnew
        subst hv
        have hyU : y ≤ U := by rw [hst.1]; exact Nat.div_le_self _ _
        have t6 : IntKind.u64.wrap ((y : Int) / 10) = ((y / 10 : Nat) : Int) := by have := H0.out.1; rw [IntKind.wrap_u64]; omega
        have HQ := Lib.hid (And.intro hy t6)
        have t5 : decide (0 < y) = true := by simpa using hy
        clear hst hnew hy t6 hyU
        go_wp2_with (at_builtin; refine Lib.wpList_append_run _ rfl _ _ _ _ rfl _ _ rfl rfl _ _ hrun ?_)
        rw [HQ.out.2]
        go_roundw
        case rel => exact ⟨y / 10, v1, y % 10 :: l, rfl, rfl, HS.out⟩
        case measure => simp only [intOf]; have := HQ.out.1; omega
  · have HN := Lib.hid hn
    clear hn
    go_enter Tryz.func24, Tryz.ntmps24
    go_wp2_with fail
    go_loopw [5, 6] (fun t5 t6 wr => ∃ (y : Nat) (v : Value) (l : List Nat), t5 = .int .u64 y ∧ v = t6 ∧ OfSt w w.heap.size U y v l wr) (fun t5 _ _ => (intOf t5).toNat)
    case atStart => exact ⟨U, _, [], rfl, rfl, by simp, by simp [dv_nil, Nat.mod_one], AD.nil, by simp, World.ownsRow_nil _ _ 3 1, (Mod.refl [] w).alloc _, Hd.new w 27 _⟩
    case round =>
      obtain ⟨y, v, l, rfl, hv, hst⟩ := hrel
      rcases Nat.eq_zero_or_pos y with hy | hy
      · subst hy
        subst hv
        obtain ⟨e1, e2, e3, e4, e5, e6, e7⟩ := hst
        have hdv : dv l = U := by
          rw [e2]
          exact Nat.mod_eq_of_lt ((Nat.div_eq_zero_iff.1 e1.symm).resolve_left (by have := Nat.pow_pos (n := l.length) (show 0 < 10 by decide); omega))
        have DC := Lib.hid (decimal_calls false x v l wr (Ir.own e5) e3 H0.out.2.1 (hi := x + 20) (by omega) (by have := H0.out.2.2; omega))
        rw [hdv, ← HN.out] at DC
        have HE := Lib.hid (And.intro e6 e7)
        clear e1 e2 e3 e4 e5 e6 e7 hdv
        go_wp2_with fail
        refine DC.out.mono ?_
        rintro _ w2 ⟨d, rfl, ⟨ng, sl, l2, ex, rfl, hir, hF⟩, m2⟩
        obtain ⟨av, cv, hsl, -, -⟩ := hir.form
        subst hsl
        have hd2 := Hd.mod HE.out.2 m2 (by simp)
        have FS := Lib.hid (dc_put hd2 (Nat.le_refl _) (HE.out.1.trans m2) hir hF)
        have k0 := hd2.cell (i := 0) rfl
        have k1 := hd2.cell (i := 1) rfl
        have k2 := hd2.cell (i := 2) rfl
        have kf := hd2.free
        clear hir hF m2 hd2 DC
        unfold dcv
        go_wp2_with fail
        obtain ⟨hd, hdc, hmd⟩ := FS.out
        have c0 := hd.cell (i := 0) rfl
        have c1 := hd.cell (i := 1) rfl
        have c2 := hd.cell (i := 2) rfl
        refine bodyPost_ret (v := dcv ng (.slice av l2.length cv) ex) (by unfold dcv; simp [results, Tryz.results24, go_sem, c0, c1, c2]; try rfl) rfl ?_
        exact ⟨_, rfl, hdc, hmd⟩
      · obtain ⟨v1, w1, hrun, hnew⟩ := of_turn hst H0.out.1 hy (Hd.lt hst.2.2.2.2.2.2)
        have HS := Lib.hid hnew
        subst hv
        have hyU : y ≤ U := by rw [hst.1]; exact Nat.div_le_self _ _
        have t6 : IntKind.u64.wrap ((y : Int) / 10) = ((y / 10 : Nat) : Int) := by have := H0.out.1; rw [IntKind.wrap_u64]; omega
        have HQ := Lib.hid (And.intro hy t6)
        have t5 : decide (0 < y) = true := by simpa using hy
        clear hst hnew hy t6 hyU
        go_wp2_with (at_builtin; refine Lib.wpList_append_run _ rfl _ _ _ _ rfl _ _ rfl rfl _ _ hrun ?_)
        rw [HQ.out.2]
        go_roundw
        case rel => exact ⟨y / 10, v1, y % 10 :: l, rfl, rfl, HS.out⟩
        case measure => simp only [intOf]; have := HQ.out.1; omega
/-- The digits of a text. -/
def dgs (l : List UInt8) : List Nat := l.map fun c => c.toNat - 48
def RdSt' (w : World) (b : Nat) (s : ByteArray) (i : Nat) (v : Value) (wr : World) : Prop :=
  i ≤ s.size ∧ wr.ownsRow (b + 1) 3 1 v (dgs (s.data.toList.take i)).length (ics (dgs (s.data.toList.take i))) ∧ Mod [] w wr ∧ Hd wr b 27 #[.bool false, .slice none 0 0, .int .i64 0]
theorem rd_turn {w wr : World} {b i : Nat} {s : ByteArray} {v : Value} (hst : RdSt' w b s i v wr) (hb : w.heap.size ≤ b) (hi : i < s.size) (hs : s.size ≤ 300) (hlt : b < wr.heap.size) :
    ∃ v1 w1, (Builtin.append_ #[25, 25] 25 #[v, .slice (some ⟨wr.heap.size, 0, none⟩) 1 1]).run Tryz.prog (wr.alloc (.cells #[.int .i64 (((s[i]'hi).toNat - 48 : Nat) : Int)] 3)) = .ok v1 w1 ∧ RdSt' w b s (i + 1) v1 w1 := by
  obtain ⟨e1, e5, e6, e7⟩ := hst
  have hl : (dgs (s.data.toList.take i)).length = i := by simp [dgs]; omega
  have mA : Mod [] w (wr.alloc (.cells #[.int .i64 (((s[i]'hi).toNat - 48 : Nat) : Int)] 3)) := e6.alloc _
  obtain ⟨v1, w1, hrun, ho, hg⟩ := append_ir (ys := [(s[i]'hi).toNat - 48]) (own_mods e5 ((Mod.refl [] wr).alloc (.cells #[.int .i64 (((s[i]'hi).toNat - 48 : Nat) : Int)] 3)) (by simp)) (Ir.own (own_one wr ((s[i]'hi).toNat - 48))) (by rw [hl]; simp; omega) (by have := e6.size; simp; omega)
  have hgm : Mod v.ownBlock.toList (wr.alloc (.cells #[.int .i64 (((s[i]'hi).toNat - 48 : Nat) : Int)] 3)) w1 := Mod.grown hg (fun k hk => by simp [hk])
  refine ⟨v1, w1, hrun, by omega, ?_, ?_, Hd.mod (Hd.mod e7 ((Mod.refl [] wr).alloc _) (by simp)) hgm (fun hm => ?_)⟩
  · have e : dgs (s.data.toList.take (i + 1)) = dgs (s.data.toList.take i) ++ [(s[i]'hi).toNat - 48] := by
      have hi' : i < s.data.toList.length := hi
      rw [List.take_succ_eq_append_getElem hi', dgs, List.map_append]
      rfl
    rw [e]
    exact ho
  · refine mA.step hgm (fun y hy => .inr ?_)
    have : v.ownBlock = some y := by simpa using hy
    have := (own_lt e5 y this).1
    omega
  · have : v.ownBlock = some b := by simpa using hm
    have := (own_lt e5 b this).1
    omega
set_option maxRecDepth 10000 in
set_option maxHeartbeats 3200000 in
theorem decimalRead_calls (neg : Bool) (s : ByteArray) (x : Int) (w : World) (hs : BD s.data.toList) (hl : s.size ≤ 300) (h1 : -400 ≤ x) (h2 : x ≤ 500) : Calls Tryz.prog 57 #[.bool neg, .string s, .int .i64 x] w (DcRet (sg neg * (bv s.data.toList : Int) * (sc x : Int)) x (x + s.size) w) := by
  have H0 := Lib.hid (And.intro hs (And.intro hl (And.intro h1 h2)))
  clear hs hl h1 h2
  go_enter Tryz.func57, Tryz.ntmps57
  go_wp2_with fail
  go_loopw [7, 8] (fun t7 t8 wr => ∃ (i : Nat) (v : Value), t8 = .int .i64 i ∧ v = t7 ∧ RdSt' w w.heap.size s i v wr) (fun _ t8 _ => s.size - (intOf t8).toNat)
  case atStart => exact ⟨0, _, rfl, rfl, Nat.zero_le _, World.ownsRow_nil _ _ 3 1, (Mod.refl [] w).alloc _, Hd.new w 27 _⟩
  case round =>
    obtain ⟨i, v, rfl, hv, hst⟩ := hrel
    rcases Nat.lt_or_ge i s.size with hi | hi
    · have hbd := H0.out.1 _ (List.getElem_mem (l := s.data.toList) (n := i) hi)
      have hce : (s.data.toList[i]'hi) = s[i]'hi := rfl
      rw [hce] at hbd
      subst hv
      obtain ⟨v1, w1, hrun, hnew⟩ := rd_turn hst (Nat.le_refl _) hi H0.out.2.1 (Hd.lt hst.2.2.2)
      have hs300 := H0.out.2.1
      have t1 : decide ((48 : Int) ≤ ((s[i]'hi).toNat : Int)) = true := by simp; omega
      have t2 : decide (((s[i]'hi).toNat : Int) ≤ 57) = true := by simp; omega
      have t3 : IntKind.u8.wrap (((s[i]'hi).toNat : Int) - 48) = (((s[i]'hi).toNat - 48 : Nat) : Int) := by rw [IntKind.wrap_u8]; omega
      have t4 : wrap64 ((((s[i]'hi).toNat - 48 : Nat) : Int)) = (((s[i]'hi).toNat - 48 : Nat) : Int) := by unfold wrap64; omega
      have HS := Lib.hid hnew
      clear hst hnew hbd hce
      go_wp2_with (at_builtin; refine Lib.wpList_append_run _ rfl _ _ _ _ rfl _ _ rfl rfl _ _ hrun ?_)
      go_roundw
      case rel => exact ⟨i + 1, v1, by go_num, rfl, HS.out⟩
      case measure => simp [intOf]; omega
    · have hie : i = s.size := by have := hst.1; omega
      subst hie
      subst hv
      obtain ⟨-, e5, e6, e7⟩ := hst
      have hta : s.data.toList.take s.size = s.data.toList := List.take_of_length_le (Nat.le_refl _)
      rw [hta] at e5
      have DC := Lib.hid (decimal_calls neg x v (dgs s.data.toList) wr (Ir.own e5) (BD.ad H0.out.1) H0.out.2.2.1 (hi := x + s.size) (by simp [dgs]) (by have := H0.out.2; omega))
      have HE := Lib.hid (And.intro e6 e7)
      clear e5 e6 e7
      go_wp2_with fail
      refine DC.out.mono ?_
      rintro _ w2 ⟨d, rfl, ⟨ng, sl, l2, ex, rfl, hir, hF⟩, m2⟩
      obtain ⟨av, cv, hsl, -, -⟩ := hir.form
      subst hsl
      have hd2 := Hd.mod HE.out.2 m2 (by simp)
      have FS := Lib.hid (dc_put hd2 (Nat.le_refl _) (HE.out.1.trans m2) hir hF)
      have k0 := hd2.cell (i := 0) rfl
      have k1 := hd2.cell (i := 1) rfl
      have k2 := hd2.cell (i := 2) rfl
      have kf := hd2.free
      clear hir hF m2 hd2 DC
      unfold dcv
      go_wp2_with fail
      obtain ⟨hd, hdc, hmd⟩ := FS.out
      have c0 := hd.cell (i := 0) rfl
      have c1 := hd.cell (i := 1) rfl
      have c2 := hd.cell (i := 2) rfl
      refine bodyPost_ret (v := dcv ng (.slice av l2.length cv) ex) (by unfold dcv; simp [results, Tryz.results57, go_sem, c0, c1, c2]; try rfl) rfl ?_
      exact ⟨_, rfl, hdc, hmd⟩
end Go.Proofs.YtcpjclakdpjjfaaGreatDoor
namespace Go.Proofs.YtcpjclakdpjjfaaGreatDoor
open Go.RowKit Wd Dg
theorem w64 {x y : Int} (h : x = y) (h1 : -9223372036854775808 ≤ y) (h2 : y ≤ 9223372036854775807) : wrap64 x = y := by unfold wrap64; omega
theorem i64w {x y : Int} (h : x = y) (h1 : -9223372036854775808 ≤ y) (h2 : y ≤ 9223372036854775807) : IntKind.i64.wrap x = y := by rw [IntKind.wrap_i64]; omega
/-- A row of ints of one's own at the head of its block. -/
def ic (l : List Nat) : Array Value := (ics l).toArray
theorem make_ints (w : World) (n : Nat) (hn : n ≤ 1000000) :
    (Instr.makeSlice 25 (.int .i64 (n : Int)) (.int .i64 (n : Int))).run Tryz.prog w = .ok (.slice (some ⟨w.heap.size, 0, none⟩) n n) (w.alloc (.cells (ic (List.replicate n 0)) 3)) := by
  obtain ⟨i, hi, hz⟩ := Option.map_eq_some_iff.1 info3
  simp only [Prod.mk.injEq] at hz
  obtain ⟨h1, h2, h3⟩ := hz
  have key := run_make w 25 3 i (.int .i64 0) Tryz.underlying25 hi h1 .i64 .i64 n n (by omega) (by omega) (by rw [h3]; omega) (by omega)
  simp only [Int.toNat_natCast, h2, Nat.mul_one] at key
  have e : madeCells (Value.int .i64 0).cells n = ic (List.replicate n 0) := by
    apply Array.ext
    · simp [madeCells, ic, ics]
    · intro i h1 h2
      simp [madeCells, ic, ics, Value.cells, Nat.mod_one]
  rw [e] at key
  exact key
theorem ic_set (l : List Nat) (i x : Nat) : (ic l).setIfInBounds i (.int .i64 (x : Int)) = ic (l.set i x) := by
  simp [ic, ics, List.map_set]
theorem ic_get {l : List Nat} {i : Nat} (hi : i < l.length) : (ic l)[i]? = some (.int .i64 ((l.getD i 0 : Nat) : Int)) := by
  simp [ic, ics, hi, List.getD_eq_getElem?_getD]
/-- Where the loops stand: the row of the product in block q. -/
structure TS (W wr : World) (q : Nat) (L : List Nat) : Prop where
  mod : Mod [q] W wr
  hd : Hd wr q 3 (ic L)
theorem TS.cell {W wr : World} {q : Nat} {L : List Nat} (h : TS W wr q L) {i : Nat} (hi : i < L.length) : wr.cell? ⟨q, i, none⟩ = some (.int .i64 ((L.getD i 0 : Nat) : Int)) := Hd.cell h.hd (ic_get hi)
theorem TS.set {W wr : World} {q : Nat} {L : List Nat} (h : TS W wr q L) (i x : Nat) : TS W (wr.setCell ⟨q, i, none⟩ (.int .i64 (x : Int))) q (L.set i x) :=
  ⟨h.mod.setCell _ (.inl (by simp)), by have := Hd.set h.hd i (.int .i64 (x : Int)); rwa [ic_set] at this⟩
theorem TS.drewN {W wr : World} {q : Nat} {L : List Nat} (h : TS W wr q L) (n : Nat) : TS W (wr.drewN n) q L := ⟨h.mod.drewN n, h.hd⟩
theorem times_start {a b : List Nat} {N : Nat} : dv (List.replicate N 0) = dv (a.take 0) * 10 ^ (a.length - 0) * dv b := by
  rw [dv_zeros, List.take_zero, dv_nil]; simp
/-- The row while one digit is multiplied. -/
def tmA (a b : List Nat) (i k : Nat) : Nat := dv (a.take i) * 10 ^ (a.length - i) * dv b + a.getD i 0 * 10 ^ (a.length - (i + 1)) * (dv (b.take k) * 10 ^ (b.length - k))
theorem tmA_zero {a b : List Nat} {i : Nat} : tmA a b i 0 = dv (a.take i) * 10 ^ (a.length - i) * dv b := by
  unfold tmA; rw [List.take_zero, dv_nil, Nat.zero_mul, Nat.mul_zero, Nat.add_zero]
theorem tmA_row {a b : List Nat} {i : Nat} (hi : i < a.length) : tmA a b i b.length = dv (a.take (i + 1)) * 10 ^ (a.length - (i + 1)) * dv b := by
  unfold tmA; rw [getD_cell hi]; exact times_row hi
theorem tmA_place {a b l : List Nat} {i k : Nat} (hi : i < a.length) (hk : k < b.length) (hl : l.length = a.length + b.length + 1) (h : dv l = tmA a b i k) : dv (l.set (i + k + 2) (l.getD (i + k + 2) 0 + a.getD i 0 * b.getD k 0)) = tmA a b i (k + 1) := by
  have hp : i + k + 2 < l.length := by omega
  unfold tmA at *
  rw [getD_cell hi] at *
  rw [getD_cell hk, getD_cell hp]
  exact times_place hi hk hl h hp
theorem bd_set {l : List Nat} {C p x : Nat} (h : ∀ j, l.getD j 0 ≤ 81 * C) (hx : x ≤ 81) : ∀ j, (l.set p (l.getD p 0 + x)).getD j 0 ≤ 81 * (C + 1) := by
  intro j
  have h1 := h j
  have h2 := h p
  by_cases hj : j = p
  · subst hj
    by_cases hl : j < l.length
    · rw [getD_cell (l := l.set j _) (by simpa using hl), List.getElem_set_self]; omega
    · rw [getD_out (l := l.set j _) (by simp; omega)]; omega
  · have e : (l.set p (l.getD p 0 + x)).getD j 0 = l.getD j 0 := by
      rw [List.getD_eq_getElem?_getD, List.getElem?_set_ne (Ne.symm hj), ← List.getD_eq_getElem?_getD]
    rw [e]; omega
theorem digit_le {l : List Nat} (h : AD l) (i : Nat) : l.getD i 0 ≤ 9 := by
  by_cases hi : i < l.length
  · rw [getD_cell hi]; exact h _ (List.getElem_mem hi)
  · rw [getD_out (by omega)]; omega
theorem sc_mul {e f : Int} (h1 : -400 ≤ e) (h2 : -400 ≤ f) (h3 : -400 ≤ e + f) : sc e * sc f = sc (e + f) * sc 0 := by
  unfold sc
  rw [← Nat.pow_add, ← Nat.pow_add]
  congr 1
  omega
theorem times_val {neg neg' : Bool} {a b P : Nat} {e f V W V' : Int} (hV : V = sg neg * (a : Int) * (sc e : Int)) (hW : W = sg neg' * (b : Int) * (sc f : Int)) (hP : P = a * b) (h : V' * sc 0 = V * W) (h1 : -400 ≤ e) (h2 : -400 ≤ f) (h3 : -400 ≤ e + f) : V' = sg (!(neg == neg')) * (P : Int) * (sc (e + f) : Int) := by
  have hp := sc_pos 0
  refine Int.eq_of_mul_eq_mul_right (by omega : (sc 0 : Int) ≠ 0) ?_
  have e1 : (sc (e + f) : Int) * (sc 0 : Int) = (sc e : Int) * (sc f : Int) := by rw [← Int.natCast_mul, ← Int.natCast_mul, sc_mul h1 h2 h3]
  have e2 : sg (!(neg == neg')) = sg neg * sg neg' := by cases neg <;> cases neg' <;> rfl
  rw [h, hV, hW, hP, Int.mul_assoc (sg (!(neg == neg')) * _), e1, e2, Int.natCast_mul]
  generalize (sc e : Int) = p
  generalize (sc f : Int) = q
  generalize (a : Int) = x
  generalize (b : Int) = y
  generalize sg neg = s
  generalize sg neg' = t
  grind
theorem _root_.Dg.DF.zero' {neg : Bool} {l : List Nat} {e lo hi : Int} (h : DF neg l e 0 lo hi) {lo' hi' : Int} (h1 : -400 ≤ lo') (h2 : hi' ≤ 1000) : DF neg l e 0 lo' hi' := by
  have := h.eq0.1 rfl
  exact ⟨h.nd, h.v, h.zero, fun hl => (hl this).elim, fun hl => (hl this).elim, h1, h2⟩
/-- The row with one place's tens carried. -/
def cry (L : List Nat) (m : Nat) : List Nat := (L.set m (L.getD m 0 + L.getD (m + 1) 0 / 10)).set (m + 1) (L.getD (m + 1) 0 % 10)
theorem cry_dv {L : List Nat} {m : Nat} (h : m + 1 < L.length) : dv (cry L m) = dv L := by
  unfold cry
  rw [getD_cell (by omega : m < L.length), getD_cell h]
  exact dv_carry (l := L) (i := m + 1) (by omega) h
theorem cry_get {L : List Nat} {m q : Nat} (h : m + 1 < L.length) : (cry L m).getD q 0 = if q = m + 1 then L.getD (m + 1) 0 % 10 else if q = m then L.getD m 0 + L.getD (m + 1) 0 / 10 else L.getD q 0 := by
  unfold cry
  by_cases h1 : q = m + 1
  · subst h1
    rw [if_pos rfl, getD_cell (l := List.set _ _ _) (by simpa using h), List.getElem_set_self]
  · rw [if_neg h1, List.getD_eq_getElem?_getD, List.getElem?_set_ne (Ne.symm h1), ← List.getD_eq_getElem?_getD]
    by_cases h2 : q = m
    · subst h2
      rw [if_pos rfl, getD_cell (l := List.set _ _ _) (by simp; omega), List.getElem_set_self]
    · rw [if_neg h2, List.getD_eq_getElem?_getD, List.getElem?_set_ne (Ne.symm h2), ← List.getD_eq_getElem?_getD]
set_option maxRecDepth 10000 in
set_option maxHeartbeats 6400000 in
theorem spec_times (d1 d2 : Value) (V W0 V' lo hi lo' hi' : Int) (w : World) (h : Dc w d1 V lo hi) (k : Dc w d2 W0 lo' hi') (h1 : -400 ≤ lo + lo') (h2 : hi + hi' + 1 ≤ 1000) (h3 : hi + 1 ≤ 1000) (h4 : hi' + 1 ≤ 1000) (h5 : hi - lo ≤ 600) (h6 : hi' - lo' ≤ 300) (h7 : 0 ≤ hi - lo) (h8 : 0 ≤ hi' - lo') (hV : V' * sc 0 = V * W0) :
    Calls Tryz.prog 23 #[d1, d2] w (DcRet V' (lo + lo') (hi + hi' + 1) w) := by
  obtain ⟨neg, sl, l, ex, rfl, hir, hF⟩ := h
  obtain ⟨neg', sl', r, ey, rfl, kir, kF⟩ := k
  obtain ⟨a, c, rfl, -, -⟩ := hir.form
  obtain ⟨a', c', rfl, -, -⟩ := kir.form
  have hl := hF.len h7
  have kl := kF.len h8
  unfold dcv at *
  obtain ⟨n1, hn1⟩ : ∃ n1, n1 = l.length := ⟨_, rfl⟩
  obtain ⟨n2, hn2⟩ : ∃ n2, n2 = r.length := ⟨_, rfl⟩
  rw [← hn1] at hir hl ⊢
  rw [← hn2] at kir kl ⊢
  obtain ⟨N, hN⟩ : ∃ N, N = n1 + n2 + 1 := ⟨_, rfl⟩
  have mk := make_ints (((w.alloc (.cells #[.bool neg, .slice a n1 c, .int .i64 ex] 27)).alloc (.cells #[.bool neg', .slice a' n2 c', .int .i64 ey] 27)).alloc (.cells #[.bool false, .slice none 0 0, .int .i64 0] 27)) N (by omega)
  have U1 := Lib.hid <| show wrap64 ((n1 : Int) + (n2 : Int)) = (n1 : Int) + (n2 : Int) from w64 rfl (by omega) (by omega)
  have U2 := Lib.hid <| show wrap64 ((n1 : Int) + (n2 : Int) + 1) = (N : Int) from w64 (by omega) (by omega) (by omega)
  have HN := Lib.hid (And.intro hn1 (And.intro hn2 hN))
  have HF := Lib.hid (And.intro hF kF)
  have HB := Lib.hid (And.intro h1 (And.intro h2 (And.intro h3 (And.intro h4 (And.intro h7 (And.intro h8 hV))))))
  have HL := Lib.hid (show n1 ≤ 600 ∧ n2 ≤ 300 by omega)
  have mW : Mod [] w ((((w.alloc (.cells #[.bool neg, .slice a n1 c, .int .i64 ex] 27)).alloc (.cells #[.bool neg', .slice a' n2 c', .int .i64 ey] 27)).alloc (.cells #[.bool false, .slice none 0 0, .int .i64 0] 27)).alloc (.cells (ic (List.replicate N 0)) 3)) := ((((Mod.refl [] w).alloc _).alloc _).alloc _).alloc _
  have q1 : Hd ((((w.alloc (.cells #[.bool neg, .slice a n1 c, .int .i64 ex] 27)).alloc (.cells #[.bool neg', .slice a' n2 c', .int .i64 ey] 27)).alloc (.cells #[.bool false, .slice none 0 0, .int .i64 0] 27)).alloc (.cells (ic (List.replicate N 0)) 3)) w.heap.size 27 #[.bool neg, .slice a n1 c, .int .i64 ex] := Hd.mod (Hd.new w 27 _) ((((Mod.refl [] _).alloc _).alloc _).alloc _) (by simp)
  have q2 : Hd ((((w.alloc (.cells #[.bool neg, .slice a n1 c, .int .i64 ex] 27)).alloc (.cells #[.bool neg', .slice a' n2 c', .int .i64 ey] 27)).alloc (.cells #[.bool false, .slice none 0 0, .int .i64 0] 27)).alloc (.cells (ic (List.replicate N 0)) 3)) (w.heap.size + 1) 27 #[.bool neg', .slice a' n2 c', .int .i64 ey] := by
    have := Hd.mod (Hd.new (w.alloc (.cells #[.bool neg, .slice a n1 c, .int .i64 ex] 27)) 27 #[.bool neg', .slice a' n2 c', .int .i64 ey]) (((Mod.refl [] _).alloc (.cells #[.bool false, .slice none 0 0, .int .i64 0] 27)).alloc (.cells (ic (List.replicate N 0)) 3)) (by simp)
    simpa using this
  have q3 : Hd ((((w.alloc (.cells #[.bool neg, .slice a n1 c, .int .i64 ex] 27)).alloc (.cells #[.bool neg', .slice a' n2 c', .int .i64 ey] 27)).alloc (.cells #[.bool false, .slice none 0 0, .int .i64 0] 27)).alloc (.cells (ic (List.replicate N 0)) 3)) (w.heap.size + 1 + 1) 27 #[.bool false, .slice none 0 0, .int .i64 0] := by
    have := Hd.mod (Hd.new ((w.alloc (.cells #[.bool neg, .slice a n1 c, .int .i64 ex] 27)).alloc (.cells #[.bool neg', .slice a' n2 c', .int .i64 ey] 27)) 27 #[.bool false, .slice none 0 0, .int .i64 0]) ((Mod.refl [] _).alloc (.cells (ic (List.replicate N 0)) 3)) (by simp)
    simpa using this
  have q4 : Hd ((((w.alloc (.cells #[.bool neg, .slice a n1 c, .int .i64 ex] 27)).alloc (.cells #[.bool neg', .slice a' n2 c', .int .i64 ey] 27)).alloc (.cells #[.bool false, .slice none 0 0, .int .i64 0] 27)).alloc (.cells (ic (List.replicate N 0)) 3)) (w.heap.size + 1 + 1 + 1) 3 (ic (List.replicate N 0)) := by
    have := Hd.new (((w.alloc (.cells #[.bool neg, .slice a n1 c, .int .i64 ex] 27)).alloc (.cells #[.bool neg', .slice a' n2 c', .int .i64 ey] 27)).alloc (.cells #[.bool false, .slice none 0 0, .int .i64 0] 27)) 3 (ic (List.replicate N 0))
    simpa using this
  have QQ := Lib.hid (And.intro mW (And.intro q1 (And.intro q2 (And.intro q3 (And.intro q4 (And.intro hir kir))))))
  clear hn1 hn2 hN hF kF h1 h2 h3 h4 h5 h6 h7 h8 hV hl kl mW q1 q2 q3 q4 hir kir
  have u1 := U1.out
  have u2 := U2.out
  go_enter Tryz.func23, Tryz.ntmps23
  go_upto_region 2 with fail
  obtain ⟨mW, q1, q2, q3, q4, hir, kir⟩ := QQ.out
  have hI1 := hir.mod mW
  have hI2 := kir.mod mW
  have hne : ∀ {v : Value} {l : List Nat}, Ir w v l → ∀ k, v.ownBlock = some k → k ∉ [w.heap.size + 1 + 1 + 1] := fun {v l} h k hk hm => by
    have hk3 := List.mem_singleton.1 hm
    rcases h with ⟨rfl, -⟩ | ⟨g, o, c, rfl, -, -, h4, -⟩
    · cases hk
    · have : g = k := by simpa [Value.ownBlock] using hk
      have := h4.lt
      omega
  have N1 := hne hir
  have N2 := hne kir
  have st0 : TS ((((w.alloc (.cells #[.bool neg, .slice a n1 c, .int .i64 ex] 27)).alloc (.cells #[.bool neg', .slice a' n2 c', .int .i64 ey] 27)).alloc (.cells #[.bool false, .slice none 0 0, .int .i64 0] 27)).alloc (.cells (ic (List.replicate N 0)) 3)) _ (w.heap.size + 1 + 1 + 1) (List.replicate N 0) := ⟨Mod.refl _ _, q4⟩
  have hs0 : w.heap.size ≤ w.heap.size + 1 + 1 := by omega
  have hd3 : w.heap.size ∉ [w.heap.size + 1 + 1 + 1] := by simp; omega
  have hd4 : w.heap.size + 1 ∉ [w.heap.size + 1 + 1 + 1] := by simp
  have hd5 : w.heap.size + 1 + 1 ∉ [w.heap.size + 1 + 1 + 1] := by simp
  have hs4 : w.heap.size ≤ w.heap.size + 1 + 1 + 1 := by omega
  clear hir kir hne
  generalize (((w.alloc (.cells #[.bool neg, .slice a n1 c, .int .i64 ex] 27)).alloc (.cells #[.bool neg', .slice a' n2 c', .int .i64 ey] 27)).alloc (.cells #[.bool false, .slice none 0 0, .int .i64 0] 27)).alloc (.cells (ic (List.replicate N 0)) 3) = W at *
  have CB := Lib.hid (fun (wr : World) (m : Mod [w.heap.size + 1 + 1 + 1] W wr) => show (wr.cell? ⟨w.heap.size, 1, none⟩ = some (.slice a n1 c) ∧ wr.cell? ⟨w.heap.size + 1, 1, none⟩ = some (.slice a' n2 c')) ∧ Ir wr (.slice a n1 c) l ∧ Ir wr (.slice a' n2 c') r ∧ Hd wr (w.heap.size + 1 + 1) 27 #[.bool false, .slice none 0 0, .int .i64 0] ∧ Hd wr w.heap.size 27 #[.bool neg, .slice a n1 c, .int .i64 ex] ∧ Hd wr (w.heap.size + 1) 27 #[.bool neg', .slice a' n2 c', .int .i64 ey] from
    ⟨⟨Hd.cell (Hd.mod q1 m hd3) (i := 1) rfl, Hd.cell (Hd.mod q2 m hd4) (i := 1) rfl⟩, hI1.mods m N1, hI2.mods m N2, Hd.mod q3 m hd5, Hd.mod q1 m hd3, Hd.mod q2 m hd4⟩)
  have HW := Lib.hid (And.intro mW (And.intro st0 (And.intro hs0 hs4)))
  have p1 := Hd.cell q1 (i := 1) rfl
  clear QQ mW q1 q2 q3 q4 hI1 hI2 N1 N2 st0 hs0 hs4 hd3 hd4 hd5 mk u1 u2
  generalize w.heap.size + 1 + 1 + 1 = bq at *
  generalize w.heap.size + 1 + 1 = b3 at *
  generalize w.heap.size + 1 = b2 at *
  generalize hb1 : w.heap.size = b1 at *
  have HB1 := Lib.hid hb1
  clear hb1
  replace p1 : W.cell? ⟨b1, 1, none⟩ = some (.slice a n1 c) := p1
  go_wp2_with fail
  clear p1
  go_loopw [21] (fun t21 wr => ∃ (i : Nat) (L : List Nat), t21 = .int .i64 i ∧ i ≤ n1 ∧ L.length = N ∧ TS W wr bq L ∧ dv L = dv (l.take i) * 10 ^ (l.length - i) * dv r ∧ ∀ j, L.getD j 0 ≤ 81 * (i * n2)) (fun t21 _ => n1 - (intOf t21).toNat)
  case atStart => exact ⟨0, _, rfl, Nat.zero_le _, by simp, HW.out.2.1, times_start, fun j => by
    rw [List.getD_eq_getElem?_getD]
    by_cases hj : j < N
    · rw [List.getElem?_eq_getElem (by simpa using hj)]; simp
    · rw [List.getElem?_eq_none (by simp; omega)]; simp⟩
  case round =>
    obtain ⟨i, L, rfl, hi, hLN, hst, hdv, hbd⟩ := hrel
    rcases Nat.lt_or_ge i n1 with hin | hin
    · obtain ⟨⟨p1, p2⟩, -⟩ := CB.out wr hst.mod
      have d1 : decide (i < n1) = true := by simpa using hin
      have HI := Lib.hid (And.intro hi (And.intro hLN (And.intro hst (And.intro hdv (And.intro hbd hin)))))
      clear hi hLN hst hdv hbd hin
      go_wp2_with fail
      clear p1 p2 d1
      go_loopw [27] (fun t27 wr => ∃ (k : Nat) (L : List Nat), t27 = .int .i64 k ∧ k ≤ n2 ∧ L.length = N ∧ TS W wr bq L ∧ dv L = tmA l r i k ∧ ∀ j, L.getD j 0 ≤ 81 * (i * n2 + k)) (fun t27 _ => n2 - (intOf t27).toNat)
      case atStart => exact ⟨0, L, rfl, Nat.zero_le _, HI.out.2.1, HI.out.2.2.1, by rw [tmA_zero]; exact HI.out.2.2.2.1, HI.out.2.2.2.2.1⟩
      case round =>
        obtain ⟨k, L1, rfl, hk, hLN, hst, hdv, hbd⟩ := hrel
        rcases Nat.lt_or_ge k n2 with hkn | hkn
        · obtain ⟨⟨p1, p2⟩, I1, I2, -⟩ := CB.out _ hst.mod
          have hin := HI.out.2.2.2.2.2
          have hN := HN.out
          obtain ⟨g, o, cc, he1, -, -, -, hcl⟩ := I1.cells (by rintro rfl; simp at hN; omega)
          obtain ⟨g', o', cc', he2, -, -, -, kcl⟩ := I2.cells (by rintro rfl; simp at hN; omega)
          obtain ⟨ha, -, -⟩ := Value.slice.inj he1
          obtain ⟨ha', -, -⟩ := Value.slice.inj he2
          subst ha
          subst ha'
          have e1 := hcl i (by omega)
          have e2 := kcl k (by omega)
          rw [← getD_cell (l := l) (by omega)] at e1
          rw [← getD_cell (l := r) (by omega)] at e2
          have e3 := hst.cell (i := i + k + 2) (by omega)
          have x9 := digit_le HF.out.1.nd.ad i
          have y9 := digit_le HF.out.2.nd.ad k
          have hb := hbd (i + k + 2)
          have hnew := tmA_place (a := l) (b := r) (l := L1) (i := i) (k := k) (by omega) (by omega) (by omega) hdv
          have hbn := bd_set (p := i + k + 2) (x := l.getD i 0 * r.getD k 0) hbd (Nat.mul_le_mul x9 y9)
          have hst2 := (hst.drewN 1).set (i + k + 2) (L1.getD (i + k + 2) 0 + l.getD i 0 * r.getD k 0)
          have hin2 : i * n2 + k ≤ 600 * 300 + 300 := by have := HL.out; have := Nat.mul_le_mul (show i ≤ 600 by omega) (show n2 ≤ 300 by omega); omega
          obtain ⟨x, hx⟩ : ∃ x, x = l.getD i 0 := ⟨_, rfl⟩
          obtain ⟨y, hy⟩ : ∃ y, y = r.getD k 0 := ⟨_, rfl⟩
          obtain ⟨p, hp⟩ : ∃ p, p = i + k + 2 := ⟨_, rfl⟩
          obtain ⟨ik, hik⟩ : ∃ ik, ik = i + k := ⟨_, rfl⟩
          obtain ⟨z, hz⟩ : ∃ z, z = L1.getD p 0 := ⟨_, rfl⟩
          obtain ⟨xy, hxy⟩ : ∃ xy, xy = x * y := ⟨_, rfl⟩
          obtain ⟨s, hs⟩ : ∃ s, s = z + xy := ⟨_, rfl⟩
          have hxy81 : xy ≤ 81 := by rw [hxy, hx, hy]; exact Nat.mul_le_mul x9 y9
          rw [← hx, ← hy, ← hxy, ← hp, ← hz, ← hs] at hst2
          rw [← hx, ← hy, ← hxy, ← hp, ← hz, ← hs] at hnew
          rw [← hx, ← hy, ← hxy, ← hp, ← hz, ← hs] at hbn
          rw [← hp, ← hz] at e3
          rw [← hp, ← hz] at hb
          rw [← hx] at e1
          rw [← hy] at e2
          have s1 : IntKind.i64.wrap ((i : Int) + (k : Int)) = (ik : Int) := i64w (by omega) (by omega) (by have := HL.out; omega)
          have s2 : IntKind.i64.wrap ((ik : Int) + 2) = (p : Int) := i64w (by omega) (by omega) (by have := HL.out; omega)
          have s3 : IntKind.i64.wrap ((x : Int) * (y : Int)) = (xy : Int) := i64w (by rw [hxy, Int.natCast_mul]) (by omega) (by omega)
          have s4 : IntKind.i64.wrap ((z : Int) + (xy : Int)) = (s : Int) := i64w (by omega) (by omega) (by omega)
          have d1 : decide (k < n2) = true := by simpa using hkn
          have d2 : p < N := by omega
          have fr := Hd.free hst.hd
          have h300 : k < 300 := by have := HL.out; omega
          have T9 := Lib.hid (And.intro hnew (And.intro hbn (And.intro hst2 (And.intro hkn hLN))))
          clear hk hLN hst hdv hbd I1 I2 hN he1 he2 hcl kcl x9 y9 hb hnew hbn hst2 hin2 hx hy hp hik hz hxy hs hxy81
          go_upto_region 8 with fail
          go_still_tail 19, (by kernel_rfl)
          change wpList _ _ _ _ _ (wr.drewN 1)
          go_wp2_with fail
          go_roundw
          case rel => exact ⟨k + 1, _, by go_num, T9.out.2.2.2.1, by rw [List.length_set]; exact T9.out.2.2.2.2, T9.out.2.2.1, T9.out.1, T9.out.2.1⟩
          case measure => simp [intOf]; have := T9.out.2.2.2.1; omega
        · have hke : k = n2 := by omega
          subst hke
          have d1 : decide (k < k) = false := by simp
          have T9 := Lib.hid (And.intro hLN (And.intro hst (And.intro hdv hbd)))
          clear hk hLN hst hdv hbd hkn
          have h600 : i < 600 := by have := HI.out.2.2.2.2.2; have := HL.out; omega
          go_wp2_with fail
          go_roundw
          case rel => exact ⟨i + 1, L1, by go_num, HI.out.2.2.2.2.2, T9.out.1, T9.out.2.1, by rw [T9.out.2.2.1, HN.out.2.1]; exact tmA_row (by have := HI.out.2.2.2.2.2; have := HN.out.1; omega), fun j => by have := T9.out.2.2.2 j; rw [Nat.add_mul, Nat.one_mul]; exact this⟩
          case measure => simp [intOf]; have := HI.out.2.2.2.2.2; omega
    · have hie : i = n1 := by omega
      subst hie
      have d1 : decide (i < i) = false := by simp
      have hP : dv L = dv l * dv r := by
        have hN := HN.out
        rw [hdv, hN.1, Nat.sub_self, Nat.pow_zero, Nat.mul_one, List.take_length]
      have hN1 : 1 ≤ N ∧ N ≤ 901 := by have := HN.out; have := HL.out; omega
      have hbd7 : ∀ j, L.getD j 0 ≤ 15000000 := fun j => Nat.le_trans (hbd j) (by have := HL.out; have := Nat.mul_le_mul (show i ≤ 600 by omega) (show n2 ≤ 300 by omega); omega)
      obtain ⟨M, hM⟩ : ∃ M, N = M + 1 := ⟨N - 1, by omega⟩
      have HM := Lib.hid hM
      have U3 := Lib.hid <| show wrap64 ((N : Int) - 1) = (M : Int) from w64 (by omega) (by omega) (by omega)
      clear hM
      have HN1 := Lib.hid hN1
      clear hN1
      have u3 := U3.out
      have T9 := Lib.hid (And.intro hLN (And.intro hst (And.intro hP hbd7)))
      clear hi hLN hst hdv hbd hin hP hbd7
      go_wp2_with fail
      clear d1 u3
      go_loopw [8] (fun t8 wr => ∃ (j : Nat) (L : List Nat), t8 = .int .i64 j ∧ j ≤ M ∧ L.length = N ∧ TS W wr bq L ∧ dv L = dv l * dv r ∧ (∀ q, q < j → L.getD q 0 ≤ 15000000) ∧ L.getD j 0 ≤ 20000000 ∧ ∀ q, j < q → L.getD q 0 ≤ 9) (fun t8 _ => (intOf t8).toNat)
      case atStart => exact ⟨M, L, by rw [U3.out], Nat.le_refl _, T9.out.1, T9.out.2.1, T9.out.2.2.1, fun q _ => T9.out.2.2.2 q, by have := T9.out.2.2.2 M; omega, fun q hq => by rw [getD_out (by have := T9.out.1; have := HM.out; omega)]; omega⟩
      case round =>
        obtain ⟨j, L2, rfl, hj, hLN, hst, hP, hb1, hb2, hb3⟩ := hrel
        rcases Nat.eq_zero_or_pos j with hj0 | hj0
        · subst hj0
          have hAD : AD L2 := by
            have hN := HN.out
            have h0 : L2.getD 0 0 = 0 := by
              rcases L2 with _ | ⟨z, t⟩
              · rfl
              · rw [dv_cons] at hP
                have a1 := dv_lt HF.out.1.nd.ad
                have a2 := dv_lt HF.out.2.nd.ad
                have a3 : dv l * dv r < 10 ^ l.length * 10 ^ r.length := Nat.mul_lt_mul'' a1 a2
                rw [← Nat.pow_add] at a3
                have ht : t.length = l.length + r.length := by simp at hLN; omega
                rw [ht] at hP
                rcases Nat.eq_zero_or_pos z with hz | hz
                · simpa using hz
                · have := Nat.mul_le_mul_right (10 ^ (l.length + r.length)) (show 1 ≤ z from hz)
                  omega
            intro d hd
            obtain ⟨q, hq, rfl⟩ := List.getElem_of_mem hd
            rw [← getD_cell hq]
            rcases Nat.eq_zero_or_pos q with hq0 | hq0
            · rw [hq0, h0]; omega
            · exact hb3 q hq0
          have hbt := CB.out wr hst.mod
          have hir : Ir wr (.slice (some ⟨bq, 0, none⟩) N N) L2 := .inr ⟨bq, 0, N, by rw [hLN], by omega, by have := HN1.out; omega, ⟨_, hst.hd⟩, fun q hq => by
            rw [Nat.zero_add, ← getD_cell hq]; exact hst.cell hq⟩
          have T8 := Lib.hid (And.intro hst (And.intro hP (And.intro hAD (And.intro hir hLN))))
          have c10 := hbt.2.2.2.2.1.cell (i := 0) rfl
          have c12 := hbt.2.2.2.2.1.cell (i := 2) rfl
          have c20 := hbt.2.2.2.2.2.cell (i := 0) rfl
          have c22 := hbt.2.2.2.2.2.cell (i := 2) rfl
          have HD3 := Lib.hid hbt.2.2.2.1
          have hn1 := HN.out.1
          have hn2 := HN.out.2.1
          have hnN := HN.out.2.2
          obtain ⟨b1', b2', b3', b4', b5', b6', b7'⟩ := HB.out
          have f1 := HF.out.1.blo
          have f2 := HF.out.2.blo
          have hxe : -400 ≤ ex + ey ∧ ex + ey + (N : Int) ≤ 1000 ∧ -400 ≤ ex ∧ -400 ≤ ey := by
            by_cases hl0 : l = []
            · have z1 := (HF.out.1.zero hl0).2
              have : i = 0 := by rw [hn1, hl0]; rfl
              by_cases hr0 : r = []
              · have z2 := (HF.out.2.zero hr0).2
                have : n2 = 0 := by rw [hn2, hr0]; rfl
                omega
              · have := HF.out.2.ge hr0; have := HF.out.2.le hr0; omega
            · have := HF.out.1.ge hl0; have := HF.out.1.le hl0
              by_cases hr0 : r = []
              · have z2 := (HF.out.2.zero hr0).2
                have : n2 = 0 := by rw [hn2, hr0]; rfl
                omega
              · have := HF.out.2.ge hr0; have := HF.out.2.le hr0; omega
          have hval := times_val (P := dv L2) HF.out.1.v HF.out.2.v hP b7' hxe.2.2.1 hxe.2.2.2 hxe.1
          have DC := Lib.hid <| show Calls Tryz.prog 40 #[.bool (!(neg == neg')), .slice (some ⟨bq, 0, none⟩) N N, .int .i64 (ex + ey)] wr (DcRet V' (lo + lo') (hi + hi' + 1) wr) by
            by_cases h0 : l = [] ∨ r = []
            · refine (decimal_calls _ _ _ _ _ hir hAD hxe.1 (hi := 1000) (by rw [hLN]; exact hxe.2.1) (by omega)).mono ?_
              rintro e w' ⟨d, rfl, ⟨ng, sl, l3, e3, rfl, i3, F3⟩, m⟩
              rw [← hval] at F3
              have hV0 : V' = 0 := by
                have hd : dv L2 = 0 := by rcases h0 with h0 | h0 <;> (rw [hP, h0, dv_nil]; simp)
                rw [hval, hd]; simp
              rw [hV0] at F3 ⊢
              exact ⟨_, rfl, ⟨ng, sl, l3, e3, rfl, i3, F3.zero' b1' b2'⟩, m⟩
            · have hl0 : l ≠ [] := fun h => h0 (.inl h)
              have hr0 : r ≠ [] := fun h => h0 (.inr h)
              have g1 := HF.out.1.ge hl0; have g2 := HF.out.1.le hl0; have g3 := HF.out.2.ge hr0; have g4 := HF.out.2.le hr0
              refine (decimal_calls _ _ _ _ _ hir hAD hxe.1 (hi := hi + hi' + 1) (by rw [hLN]; omega) b2').mono ?_
              rintro e w' ⟨d, rfl, hdc, m⟩
              rw [← hval] at hdc
              exact ⟨_, rfl, hdc.mono (by omega) (Int.le_refl _) b1' b2', m⟩
          have tx : wrap64 (ex + ey) = ex + ey := w64 rfl (by omega) (by omega)
          clear hval hxe f1 f2 b1' b2' b3' b4' b5' b6' b7' hn1 hn2 hnN
          clear hj hLN hst hP hb1 hb2 hb3 hAD hbt hir
          go_wp2_with fail
          refine DC.out.mono ?_
          rintro _ w2 ⟨d, rfl, ⟨ng, sl, l3, e3, rfl, i3, F3⟩, m2⟩
          obtain ⟨av, cv, hsl, -, -⟩ := i3.form
          subst hsl
          have hd2 := Hd.mod HD3.out m2 (by simp)
          have mw2 : Mod [] w w2 := (HW.out.1.step T8.out.1.mod (fun x hx => .inr (by rw [List.mem_singleton.1 hx]; rw [HB1.out]; exact HW.out.2.2.2))).trans m2
          have FS := Lib.hid (dc_put hd2 (by rw [HB1.out]; exact HW.out.2.2.1) mw2 i3 F3)
          have k0 := hd2.cell (i := 0) rfl
          have k1 := hd2.cell (i := 1) rfl
          have k2 := hd2.cell (i := 2) rfl
          have kf := hd2.free
          clear i3 F3 m2 hd2 DC mw2 tx
          unfold dcv
          go_wp2_with fail
          obtain ⟨hd, hdc, hmd⟩ := FS.out
          have c0 := hd.cell (i := 0) rfl
          have c1 := hd.cell (i := 1) rfl
          have c2 := hd.cell (i := 2) rfl
          refine bodyPost_ret (v := dcv ng (.slice av l3.length cv) e3) (by unfold dcv; simp [results, Tryz.results23, go_sem, c0, c1, c2]; try rfl) rfl ?_
          exact ⟨_, rfl, hdc, hmd⟩
        · obtain ⟨m, hjm⟩ : ∃ m, j = m + 1 := ⟨j - 1, by omega⟩
          have hM := HM.out
          have hN1 := HN1.out
          have hm : m + 1 < L2.length := by omega
          have e1 := hst.cell (i := m) (by omega)
          have e2 := hst.cell (i := j) (by omega)
          have hx := hb1 m (by omega)
          have hdv := cry_dv hm
          have hgt := fun q => cry_get (q := q) hm
          rw [← hjm] at hgt
          obtain ⟨x, hxx⟩ : ∃ x, x = L2.getD m 0 := ⟨_, rfl⟩
          obtain ⟨y, hyy⟩ : ∃ y, y = L2.getD j 0 := ⟨_, rfl⟩
          obtain ⟨y10, hy10⟩ : ∃ y10, y10 = y / 10 := ⟨_, rfl⟩
          obtain ⟨s, hs⟩ : ∃ s, s = x + y10 := ⟨_, rfl⟩
          obtain ⟨ym, hym⟩ : ∃ ym, ym = y % 10 := ⟨_, rfl⟩
          have hst1 := (hst.drewN 1).set m s
          have hst2 := hst1.set j ym
          have he : (L2.set m s).set j ym = cry L2 m := by unfold cry; rw [← hjm, ← hxx, ← hyy, ← hy10, ← hs, ← hym]
          rw [he] at hst2
          have e4 := hst1.cell (i := j) (by simp; omega)
          have hg4 : (L2.set m s).getD j 0 = y := by rw [List.getD_eq_getElem?_getD, List.getElem?_set_ne (by omega), ← List.getD_eq_getElem?_getD, hyy]
          rw [hg4] at e4
          rw [← hxx] at e1 hx
          rw [← hyy] at e2 hb2
          have s1 : IntKind.i64.wrap ((j : Int) - 1) = (m : Int) := i64w (by omega) (by omega) (by omega)
          have s2 : IntKind.i64.wrap ((y : Int).tdiv 10) = (y10 : Int) := i64w (by rw [hy10]; exact tdiv_cast y 10) (by omega) (by omega)
          have s3 : IntKind.i64.wrap ((x : Int) + (y10 : Int)) = (s : Int) := i64w (by omega) (by omega) (by omega)
          have V2 := Lib.hid <| show wrap64 ((y : Int) / 10) = (y10 : Int) from w64 (by omega) (by omega) (by omega)
          have V3 := Lib.hid <| show wrap64 ((x : Int) + (y10 : Int)) = (s : Int) from w64 (by omega) (by omega) (by omega)
          have V5 := Lib.hid <| show wrap64 ((j : Int) - 1) = (m : Int) from w64 (by omega) (by omega) (by omega)
          have V4 := Lib.hid <| show (y : Int) % 10 = (ym : Int) by omega
          have d1 : decide (0 < j) = true := by simp; omega
          have hjN : j < N := by omega
          have hmN : m < N := by omega
          have fr := Hd.free hst.hd
          have fr1 := Hd.free hst1.hd
          have T8 := Lib.hid (And.intro hst2 (And.intro (hdv.trans hP) (And.intro hgt (And.intro hb1 (And.intro hb3 (And.intro hLN (And.intro hxx (And.intro hyy (And.intro hj (And.intro hx (And.intro hb2 (And.intro hy10 (And.intro hym (And.intro hjm hs))))))))))))))
          clear hj hLN hst hP hb1 hb2 hb3 hm hx hdv hgt hxx hyy hy10 hs hym hst1 hst2 he hg4 hj0 hjm hM hN1
          go_upto_region 14 with fail
          go_still_tail 11, (by kernel_rfl)
          change wpList _ _ _ _ _ (wr.drewN 1)
          have v2 := V2.out
          have v3 := V3.out
          have v4 := V4.out
          clear s1 s2 s3
          go_wp2_with fail
          rw [V5.out]
          go_roundw
          case rel =>
            obtain ⟨k1, k2, k3, k4, k5, k6, k7, k8, k9, k10, k11, k12, k13, k14, k15⟩ := T8.out
            refine ⟨m, cry L2 m, rfl, by omega, by unfold cry; simp [k6], k1, k2, fun q hq => ?_, ?_, fun q hq => ?_⟩
            · rw [k3, if_neg (by omega), if_neg (by omega)]; exact k4 q (by omega)
            · rw [k3, if_neg (by omega), if_pos rfl, ← k7, ← k8]; omega
            · rw [k3]
              by_cases h : q = j
              · rw [if_pos h]; omega
              · rw [if_neg h, if_neg (by omega)]; exact k5 q (by omega)
          case measure =>
            obtain ⟨k1, k2, k3, k4, k5, k6, k7, k8, k9, k10, k11, k12, k13, k14, k15⟩ := T8.out
            simp [intOf]; omega
end Go.Proofs.YtcpjclakdpjjfaaGreatDoor
