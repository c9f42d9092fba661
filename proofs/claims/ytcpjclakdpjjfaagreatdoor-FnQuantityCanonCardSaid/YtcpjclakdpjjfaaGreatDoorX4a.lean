/- The canonical digits of a quantity are its number; so they are at a scale: the walk (laws: FnQuantityCanon). -/
import Derived.Test.YtcpjclakdpjjfaaGreatDoorC43
import Derived.Test.YtcpjclakdpjjfaaGreatDoorC46
import Derived.Test.YtcpjclakdpjjfaaGreatDoorC35
import Derived.Test.YtcpjclakdpjjfaaGreatDoorC28
import Derived.Test.YtcpjclakdpjjfaaGreatDoorC48
import Derived.Test.YtcpjclakdpjjfaaGreatDoorC23
import Derived.Test.YtcpjclakdpjjfaaGreatDoorC44
namespace Go.Proofs.YtcpjclakdpjjfaaGreatDoor
open Go.RowKit Wd Dg
/-- A quantity laid behind, its cells in sight, its blocks new. -/
theorem PqRet.fresh {w w1 : World} {v s V : Int} {q : Option Addr} {st fb : ByteArray} {bl : List Nat} (ok : QOk w1 v s (.pointer q) V bl) (hn : ∀ k, k ∈ bl → w.heap.size ≤ k) (m : Mod [] w w1) (he : Env2 w) :
    (Qy (w1.alloc (.cells (qc v s (.pointer q) (.string st) (.string fb)) 70)) w1.heap.size V (.string fb) bl ∧ Hd (w1.alloc (.cells (qc v s (.pointer q) (.string st) (.string fb)) 70)) w1.heap.size 70 (qc v s (.pointer q) (.string st) (.string fb)) ∧ QOk (w1.alloc (.cells (qc v s (.pointer q) (.string st) (.string fb)) 70)) v s (.pointer q) V bl) ∧
    Env2 (w1.alloc (.cells (qc v s (.pointer q) (.string st) (.string fb)) 70)) ∧ Mod [] w (w1.alloc (.cells (qc v s (.pointer q) (.string st) (.string fb)) 70)) ∧ ∀ k, k ∈ w1.heap.size :: bl → w.heap.size ≤ k := by
  have ma : Mod [] w1 (w1.alloc (.cells (qc v s (.pointer q) (.string st) (.string fb)) 70)) := (Mod.refl [] w1).alloc _
  have he1 := he.mod m (by simp)
  have hd := Hd.new w1 70 (qc v s (.pointer q) (.string st) (.string fb))
  refine ⟨⟨⟨⟨v, s, .pointer q, .string st, hd, ok.mod ma (by simp)⟩, he1.env.big⟩, hd, ok.mod ma (by simp)⟩, he1.mod ma (by simp), m.trans ma, fun k hk => ?_⟩
  rcases List.mem_cons.1 hk with rfl | hk
  · exact m.size
  · exact hn k hk
/-- What is turned in place is turned behind. -/
theorem QtR.behind {w W w' : World} {bq : Nat} {bl : List Nat} {V : Int} {f : Value} (h : QtR W bq bl V f w') (hn : ∀ k, k ∈ bq :: bl → w.heap.size ≤ k) (m : Mod [] w W) (he : Env2 W) (hlo : 19 ≤ w.heap.size) : ∃ bl', Qy w' bq V f bl' ∧ Env2 w' ∧ Mod [] w w' := by
  obtain ⟨bl', h1, h2, -⟩ := h
  exact ⟨bl', h1, he.mod h2 (fun k hk => Nat.le_trans hlo (hn k hk)), m.step h2 (fun k hk => .inr (hn k hk))⟩
set_option maxHeartbeats 3200000 in
theorem qsign_calls (s : ByteArray) (fn : Nat) (V : Int) (w : World) (he : Env2 w) (h : WordT s fn V) : Calls Tryz.prog 21 #[.string s] w fun e w' => e = .returned (.tuple #[.int .i64 (sgnI V), .bool (decide (V = 0)), .int .i64 0]) ∧ Mod [] w w' := by
  have P := Lib.hid (parse_calls s fn V w he h)
  have HH := Lib.hid he
  clear he h
  go_enter Tryz.func21, Tryz.ntmps21
  go_wp2_with fail
  refine P.out.mono ?_
  rintro e w1 ⟨v, sc, q, st, fb, bl, rfl, hf, ok, hn, hm, m⟩
  have L := Lib.hid (PqRet.fresh (st := st) (fb := fb) ok hn m HH.out)
  clear hf ok hn hm m P
  unfold qv
  go_upto_region 4 with fail
  obtain ⟨⟨hq, -, -⟩, hee, hm, -⟩ := L.out
  unfold qc at hq hee hm
  generalize w1.alloc (.cells #[.int .i64 v, .int .i32 sc, .pointer q, .string st, .string fb] 70) = W at *
  generalize w1.heap.size = bq at *
  have S := Lib.hid (q_sign bq V _ bl W hq)
  have Z := Lib.hid (fun w' (m : Mod [] W w') => q_isZero bq V _ bl w' (hq.mod m (by simp) (by simp)))
  have HM := Lib.hid hm
  clear hq hee hm L
  go_wp2_with fail
  refine S.out.mono ?_
  rintro e w2 ⟨rfl, m2⟩
  have Z' := Lib.hid (Z.out w2 m2)
  have M2 := Lib.hid (HM.out.trans m2)
  clear m2 S Z
  go_wp2_with fail
  refine Z'.out.mono ?_
  rintro e w3 ⟨rfl, rfl⟩
  obtain ⟨z, hz⟩ : ∃ z, decide (V = 0) = z := ⟨_, rfl⟩
  rw [hz]
  have HZ := Lib.hid hz
  clear hz
  go_wp2_with fail
  go_ret3
  exact ⟨by rw [← HZ.out]; rfl, M2.out⟩
set_option maxHeartbeats 3200000 in
theorem qneg_calls (s : ByteArray) (fn : Nat) (V : Int) (w : World) (he : Env2 w) (h : WordT s fn V) (hc : CanOk fn (-V)) : Calls Tryz.prog 27 #[.string s] w fun e w' => ∃ t : List UInt8, e = .returned (.tuple #[.string ⟨t.toArray⟩, .int .i64 0]) ∧ CanTxt fn (-V) t ∧ Mod [] w w' := by
  have P := Lib.hid (parse_calls s fn V w he h)
  have HH := Lib.hid (And.intro he (And.intro h.ok hc))
  clear he h hc
  go_enter Tryz.func27, Tryz.ntmps27
  go_wp2_with fail
  refine P.out.mono ?_
  rintro e w1 ⟨v, sc, q, st, fb, bl, rfl, hf, ok, hn, hm, m⟩
  have L := Lib.hid (PqRet.fresh (st := st) (fb := fb) ok hn m HH.out.1)
  have HF := Lib.hid (And.intro hf hm)
  clear hf ok hn hm m P
  unfold qv
  go_upto_region 4 with fail
  obtain ⟨⟨hq, hd, hqo⟩, hee, hm, hfr⟩ := L.out
  unfold qc at hq hd hee hm hqo
  generalize w1.alloc (.cells #[.int .i64 v, .int .i32 sc, .pointer q, .string st, .string fb] 70) = W at *
  generalize w1.heap.size = bq at *
  have C := Lib.hid (q_neg bq v sc _ _ _ V bl W hd hqo hq.lo HF.out.2)
  have HM := Lib.hid (And.intro hm (And.intro hfr hee))
  clear hq hd hqo hee hm hfr L
  go_wp2_with fail
  refine C.out.mono ?_
  rintro e w2 ⟨rfl, hqt⟩
  have R := Lib.hid (hqt.behind HM.out.2.1 HM.out.1 HM.out.2.2 HH.out.1.env.big)
  obtain ⟨bl', k1, k2, k3⟩ := R.out
  have CC := Lib.hid (canonical_calls fb fn HF.out.1 bq _ bl' w2 k2 k1 (can_may HH.out.2.2))
  have K3 := Lib.hid k3
  clear hqt k1 k2 k3 R C
  go_wp2_with fail
  refine CC.out.mono ?_
  rintro e w3 ⟨t, rfl, ht, m3⟩
  have HT := Lib.hid ht
  have M3 := Lib.hid (K3.out.trans m3)
  clear ht m3 CC
  go_wp2_with fail
  go_ret2
  exact ⟨t, rfl, HT.out, M3.out⟩
set_option maxHeartbeats 3200000 in
theorem qmul_calls (s : ByteArray) (fn : Nat) (V y : Int) (w : World) (he : Env2 w) (h : WordT s fn V) (hy : i64 y) (hc : CanOk fn (V * y)) : Calls Tryz.prog 25 #[.string s, .int .i64 y] w fun e w' => ∃ t : List UInt8, (∃ ok : Bool, e = .returned (.tuple #[.string ⟨t.toArray⟩, .bool ok, .int .i64 0])) ∧ CanTxt fn (V * y) t ∧ Mod [] w w' := by
  have P := Lib.hid (parse_calls s fn V w he h)
  have HH := Lib.hid (And.intro he (And.intro h.ok hc))
  have HY := Lib.hid hy
  clear hy
  clear he h hc
  go_enter Tryz.func25, Tryz.ntmps25
  go_wp2_with fail
  refine P.out.mono ?_
  rintro e w1 ⟨v, sc, q, st, fb, bl, rfl, hf, ok, hn, hm, m⟩
  have L := Lib.hid (PqRet.fresh (st := st) (fb := fb) ok hn m HH.out.1)
  have HF := Lib.hid (And.intro hf hm)
  clear hf ok hn hm m P
  unfold qv
  go_upto_region 4 with fail
  obtain ⟨⟨hq, hd, hqo⟩, hee, hm, hfr⟩ := L.out
  unfold qc at hq hd hee hm hqo
  generalize w1.alloc (.cells #[.int .i64 v, .int .i32 sc, .pointer q, .string st, .string fb] 70) = W at *
  generalize w1.heap.size = bq at *
  have C := Lib.hid (q_mul bq V y _ bl W hee hq HY.out (can_vb HH.out.2.2))
  have HM := Lib.hid (And.intro hm (And.intro hfr hee))
  clear hq hd hqo hee hm hfr L
  go_wp2_with fail
  refine C.out.mono ?_
  rintro e w2 ⟨⟨ok, rfl⟩, hqt⟩
  have R := Lib.hid (hqt.behind HM.out.2.1 HM.out.1 HM.out.2.2 HH.out.1.env.big)
  obtain ⟨bl', k1, k2, k3⟩ := R.out
  have CC := Lib.hid (canonical_calls fb fn HF.out.1 bq _ bl' w2 k2 k1 (can_may HH.out.2.2))
  have K3 := Lib.hid k3
  clear hqt k1 k2 k3 R C
  go_wp2_with fail
  refine CC.out.mono ?_
  rintro e w3 ⟨t, rfl, ht, m3⟩
  have HT := Lib.hid ht
  have M3 := Lib.hid (K3.out.trans m3)
  clear ht m3 CC
  go_wp2_with fail
  go_ret3
  exact ⟨t, ⟨ok, rfl⟩, HT.out, M3.out⟩
set_option maxHeartbeats 3200000 in
theorem qround_calls (s : ByteArray) (fn : Nat) (V c : Int) (w : World) (he : Env2 w) (h : WordT s fn V) (h1 : -9 ≤ c) (h2 : c ≤ 18) (hc : CanOk fn (rup10 V c)) : Calls Tryz.prog 19 #[.string s, .int .i64 c] w fun e w' => ∃ t : List UInt8, e = .returned (.tuple #[.string ⟨t.toArray⟩, .bool (decide (rup10 V c = V)), .int .i64 0]) ∧ CanTxt fn (rup10 V c) t ∧ Mod [] w w' := by
  have P := Lib.hid (parse_calls s fn V w he h)
  have HH := Lib.hid (And.intro he (And.intro h.ok hc))
  have HY := Lib.hid (And.intro h1 h2)
  clear he h hc
  go_enter Tryz.func19, Tryz.ntmps19
  go_wp2_with fail
  refine P.out.mono ?_
  rintro e w1 ⟨v, sc, q, st, fb, bl, rfl, hf, ok, hn, hm, m⟩
  have L := Lib.hid (PqRet.fresh (st := st) (fb := fb) ok hn m HH.out.1)
  have HF := Lib.hid (And.intro hf hm)
  clear hf ok hn hm m P
  unfold qv
  go_upto_region 4 with fail
  obtain ⟨⟨hq, hd, hqo⟩, hee, hm, hfr⟩ := L.out
  unfold qc at hq hd hee hm hqo
  generalize w1.alloc (.cells #[.int .i64 v, .int .i32 sc, .pointer q, .string st, .string fb] 70) = W at *
  generalize w1.heap.size = bq at *
  have C := Lib.hid (q_roundUp bq V c _ bl W hee hq (can_vb HH.out.2.1) HY.out.1 HY.out.2)
  have HM := Lib.hid (And.intro hm (And.intro hfr hee))
  clear hq hd hqo hee hm hfr L
  go_wp2_with fail
  refine C.out.mono ?_
  rintro e w2 ⟨rfl, hqt⟩
  have R := Lib.hid (hqt.behind HM.out.2.1 HM.out.1 HM.out.2.2 HH.out.1.env.big)
  obtain ⟨bl', k1, k2, k3⟩ := R.out
  have CC := Lib.hid (canonical_calls fb fn HF.out.1 bq _ bl' w2 k2 k1 (can_may HH.out.2.2))
  have K3 := Lib.hid k3
  clear hqt k1 k2 k3 R C
  go_wp2_with fail
  refine CC.out.mono ?_
  rintro e w3 ⟨t, rfl, ht, m3⟩
  have HT := Lib.hid ht
  have M3 := Lib.hid (K3.out.trans m3)
  clear ht m3 CC
  go_wp2_with fail
  go_ret3
  exact ⟨t, rfl, HT.out, M3.out⟩
end Go.Proofs.YtcpjclakdpjjfaaGreatDoor
namespace Go.Proofs.YtcpjclakdpjjfaaGreatDoor
open Go.RowKit Wd Dg
/-- A canonical text of a kind by ten is a word again. -/
theorem can_wordA {fn : Nat} {V : Int} {t : List UInt8} (h : CanTxt fn V t) (hk : fn ≠ 1) (hc : CanOk fn V) : ∃ fn' : Nat, fn' ≠ 1 ∧ WordT ⟨t.toArray⟩ fn' V := by
  by_cases h0 : V = 0
  · have ht : t = [48] := by
      rcases h with ⟨-, h⟩ | ⟨h, -⟩ | ⟨h, -⟩
      · exact h
      · exact (h h0).elim
      · exact (hk h).elim
    subst ht
    refine ⟨2, by decide, ⟨⟨[], [48], [], [], false, 0, rfl, .inl rfl, bd_of (by decide), bd_of (by decide), fun _ => rfl, by decide, .inl ⟨rfl, .inl ⟨rfl, rfl⟩⟩, by decide, ?_⟩, hc.1, hc.2.1, fun h => by cases h⟩⟩
    rw [h0]
    unfold qV
    rw [if_neg (by decide), show bv ([48] ++ []) = 0 by decide]
    simp
  · exact can_wordT h hk h0 hc
theorem up_ne0 {V : Int} {q : Nat} (hq : 0 < q) (h : V ≠ 0) : up V q ≠ 0 := by
  have h1 : 1 ≤ upA V.natAbs q := by unfold upA; exact (Nat.le_div_iff_mul_le hq).2 (by omega)
  unfold up
  split <;> omega
theorem rup10_ne0 {V : Int} (c : Int) (h : V ≠ 0) : rup10 V c ≠ 0 := Int.mul_ne_zero (up_ne0 (sc_pos c) h) (by have := sc_pos c; omega)
theorem rup_vb {V c : Int} (h : V.natAbs ≤ 9223372036854775807 * sc 0) (h1 : -9 ≤ c) (h2 : c ≤ 18) : VB (rup10 V c) := by
  have hU : (up V (sc c)).natAbs = upA V.natAbs (sc c) := by unfold up; split <;> simp
  have h3 : upA V.natAbs (sc c) * sc c ≤ V.natAbs + sc c := by
    unfold upA
    have := Nat.div_mul_le_self (V.natAbs + sc c - 1) (sc c)
    omega
  have h4 : sc c ≤ sc 18 := sc_mono h2
  have h5 : sc 18 = 10 ^ 18 * sc 0 := sc_split (s := 0) (c := 18) (k := 18) rfl (by decide)
  rw [show (10 : Nat) ^ 18 = 1000000000000000000 by decide] at h5
  refine ⟨?_, ⟨up V (sc c) * ((10 ^ (c + 9).toNat : Nat) : Int), ?_⟩⟩
  · unfold rup10
    rw [Int.natAbs_mul, Int.natAbs_natCast, hU]
    generalize sc 0 = z at *
    generalize sc 18 = y at *
    generalize upA V.natAbs (sc c) * sc c = x at *
    generalize sc c = u at *
    omega
  · unfold rup10
    rw [Int.mul_assoc, ← Int.natCast_mul, ← sc_split (c := c) (s := -9) (k := (c + 9).toNat) (by omega) (by decide)]
/-- The canonical digits of a number are its digits, at the exponent's rest. -/
theorem _root_.Dg.DF.digits {neg : Bool} {l : List Nat} {ex V lo hi M e : Int} (h : Dg.DF neg l ex V lo hi) (hV : V ≠ 0) (hc : Cn V M e) (hlo : -390 ≤ lo) (hhi : hi - lo ≤ 900) : e % 3 = 0 ∧ e ≤ ex ∧ ex < e + 3 ∧ Dg.DF neg l (ex - e) (M * sc 0) (ex - e) (ex - e + l.length) := by
  have hl : l ≠ [] := fun h0 => hV (h.eq0.2 h0)
  have g1 := h.ge hl
  have g2 := h.le hl
  obtain ⟨E, h1, h2, h3⟩ : ∃ E : Int, E % 3 = 0 ∧ E ≤ ex ∧ ex < E + 3 := ⟨ex - ex % 3, by omega, by omega, by omega⟩
  have k := h.cn hl (E := E) h1 h2 h3 (by omega)
  obtain ⟨rfl, rfl⟩ := hc.unique k
  refine ⟨h1, h2, h3, ?_⟩
  have := h.at hl (x := ex - e) (hi' := ex - e + l.length) (by omega) (Int.le_refl _) (by omega)
  rwa [Dg.DF.int (by omega)] at this
end Go.Proofs.YtcpjclakdpjjfaaGreatDoor
namespace Go.Proofs.YtcpjclakdpjjfaaGreatDoor
open Go.RowKit Wd Dg
theorem meth_ca (v s : Int) (w : World) : (method 524 64 (.agg #[.int .i64 v, .int .i32 s]) "AsCanonicalBytes").run Tryz.prog w = .ok (85, .agg #[.int .i64 v, .int .i32 s]) w := by kernel_rfl
theorem meth_cd (b : Nat) (w : World) : (method 524 67 (.agg #[.pointer (some ⟨b, 0, none⟩)]) "AsCanonicalBytes").run Tryz.prog w = .ok (84, .agg #[.pointer (some ⟨b, 0, none⟩)]) w := by kernel_rfl
/-- The canonical digits of an amount of either make. -/
theorem canon_meth {w : World} {iv : Value} {R c0 : Int} (he : Env2 w) (hc : CV w iv R c0) (h0 : R ≠ 0) (hB : VB R) (o : Value) (ho : o = .slice none 0 0) :
    ∃ fn rv ty x, (fn = 84 ∨ fn = 85) ∧ iv = .iface ty x ∧ (∀ w, (method 524 ty x "AsCanonicalBytes").run Tryz.prog w = .ok (fn, rv) w) ∧ Calls Tryz.prog fn #[rv, o] w (CnRet R w) := by
  rcases hc with ⟨v, s, rfl, hv, h1, h2, hV, h3⟩ | ⟨b, c, n, u, rfl, ia, db, hV⟩
  · refine ⟨85, amt v s, 64, amt v s, .inr rfl, rfl, fun w => meth_ca v s w, ?_⟩
    rw [hV]
    exact amtCanon v s w he hv (fun h => h0 (by rw [hV, h, Int.zero_mul])) (by omega) (by omega) o ho
  · refine ⟨84, _, 67, _, .inl rfl, rfl, fun w => meth_cd b w, ?_⟩
    have := infCanon_calls b c n u w he.env ia (fun h => h0 (by rw [hV, h]; unfold dV; rw [Int.zero_mul])) (by have := db.lo; omega) (by have := db.hi; omega) db.b7 (fun M e hc => hB.cn (by rw [hV]; exact hc)) o ho
    rw [hV]
    exact this
set_option maxHeartbeats 3200000 in
theorem qcanon_calls (s : ByteArray) (fn : Nat) (V : Int) (w : World) (he : Env2 w) (h : WordT s fn V) (hV0 : V ≠ 0) : Calls Tryz.prog 14 #[.string s] w fun e w' => ∃ M ex : Int, e = .returned (.tuple #[.string ⟨(Lib.itoa M).toArray⟩, .int .i64 ex, .int .i64 0]) ∧ Cn V M ex ∧ -800 ≤ ex ∧ ex ≤ 5000 ∧ Mod [] w w' := by
  have P := Lib.hid (parse_calls s fn V w he h)
  have HH := Lib.hid (And.intro he (And.intro (can_vb h.ok) hV0))
  clear he h hV0
  go_enter Tryz.func14, Tryz.ntmps14
  go_wp2_with fail
  refine P.out.mono ?_
  rintro e w1 ⟨v, sc, q, st, fb, bl, rfl, hf, ok, hn, hm, m⟩
  have L := Lib.hid (PqRet.fresh (st := st) (fb := fb) ok hn m HH.out.1)
  clear hf ok hn hm m P
  unfold qv
  go_upto_region 4 with fail
  obtain ⟨⟨hq, -, -⟩, hee, hm, -⟩ := L.out
  unfold qc at hq hee hm
  generalize w1.alloc (.cells #[.int .i64 v, .int .i32 sc, .pointer q, .string st, .string fb] 70) = W at *
  generalize w1.heap.size = bq at *
  have C := Lib.hid (q_canon bq V _ bl W hee hq HH.out.2.1 HH.out.2.2 (.slice none 0 0) rfl)
  have HM := Lib.hid hm
  clear hq hee hm L
  go_wp2_with fail
  refine C.out.mono ?_
  rintro e w2 ⟨b, M, ex, rfl, hc, hb, m2, x1, x2⟩
  have cv := hb.conv
  have HC := Lib.hid (And.intro hc (And.intro x1 (And.intro x2 (HM.out.trans m2))))
  have cx : wrap64 ex = ex := w64 rfl (by omega) (by omega)
  clear hc hb m2 C
  go_wp2_with fail
  go_ret3
  exact ⟨M, ex, rfl, HC.out⟩
set_option maxHeartbeats 3200000 in
theorem qasScale_calls (s : ByteArray) (fn : Nat) (V c : Int) (w : World) (he : Env2 w) (h : WordT s fn V) (hV0 : V ≠ 0) (h1 : -9 ≤ c) (h2 : c ≤ 18) : Calls Tryz.prog 16 #[.string s, .int .i64 c] w fun e w' => ∃ M ex : Int, e = .returned (.tuple #[.string ⟨(Lib.itoa M).toArray⟩, .int .i64 ex, .bool (decide (rup10 V c = V)), .int .i64 0]) ∧ Cn (rup10 V c) M ex ∧ -800 ≤ ex ∧ ex ≤ 5000 ∧ Mod [] w w' := by
  have P := Lib.hid (parse_calls s fn V w he h)
  have HH := Lib.hid (And.intro he (And.intro (can_vb h.ok) (And.intro hV0 (rup_vb h.ok.1 h1 h2))))
  have HY := Lib.hid (And.intro h1 h2)
  clear he h hV0
  go_enter Tryz.func16, Tryz.ntmps16
  go_wp2_with fail
  refine P.out.mono ?_
  rintro e w1 ⟨v, sc, q, st, fb, bl, rfl, hf, ok, hn, hm, m⟩
  have L := Lib.hid (PqRet.fresh (st := st) (fb := fb) ok hn m HH.out.1)
  clear hf ok hn hm m P
  unfold qv
  go_upto_region 4 with fail
  obtain ⟨⟨hq, -, -⟩, hee, hm, -⟩ := L.out
  unfold qc at hq hee hm
  generalize w1.alloc (.cells #[.int .i64 v, .int .i32 sc, .pointer q, .string st, .string fb] 70) = W at *
  generalize w1.heap.size = bq at *
  have C := Lib.hid (q_asScale bq V c _ bl W hee hq HH.out.2.1 HY.out.1 HY.out.2)
  have HM := Lib.hid (And.intro hm hee)
  clear hq hee hm L
  go_wp2_with fail
  refine C.out.mono ?_
  rintro e w2 ⟨iv, rfl, hcv, m2⟩
  have M2 := Lib.hid (HM.out.1.trans m2)
  obtain ⟨mn, rv, ty, x, hmn, rfl, hmt, hcl⟩ := canon_meth (HM.out.2.mod m2 (by simp)) hcv (rup10_ne0 c HH.out.2.2.1) HH.out.2.2.2 (.slice none 0 0) rfl
  have mm := hmt w2
  have CA := Lib.hid hcl
  obtain ⟨z, hz⟩ : ∃ z, decide (rup10 V c = V) = z := ⟨_, rfl⟩
  rw [hz]
  have HZ := Lib.hid hz
  clear hz hmt hcl hcv m2 C
  rcases hmn with rfl | rfl
  · go_wp2_with fail
    refine CA.out.mono ?_
    rintro e w3 ⟨b, M, ex, rfl, hc, hb, m3, x1, x2⟩
    have cv := hb.conv
    have HC := Lib.hid (And.intro hc (And.intro x1 (And.intro x2 (M2.out.trans m3))))
    have cx : wrap64 ex = ex := w64 rfl (by omega) (by omega)
    clear hc hb m3 CA mm
    go_wp2_with fail
    go_returns
    exact ⟨M, ex, (by rw [← HZ.out]), HC.out⟩
  · go_wp2_with fail
    refine CA.out.mono ?_
    rintro e w3 ⟨b, M, ex, rfl, hc, hb, m3, x1, x2⟩
    have cv := hb.conv
    have HC := Lib.hid (And.intro hc (And.intro x1 (And.intro x2 (M2.out.trans m3))))
    have cx : wrap64 ex = ex := w64 rfl (by omega) (by omega)
    clear hc hb m3 CA mm
    go_wp2_with fail
    go_returns
    exact ⟨M, ex, (by rw [← HZ.out]), HC.out⟩
end Go.Proofs.YtcpjclakdpjjfaaGreatDoor
namespace Go.Proofs.YtcpjclakdpjjfaaGreatDoor
open Go.RowKit Wd Dg
set_option maxHeartbeats 3200000 in
theorem digitsAt_calls (d : Value) (V M e lo hi : Int) (w : World) (h : Dc w d V lo hi) (hV : V ≠ 0) (hc : Cn V M e) (hlo : -390 ≤ lo) (hhi : hi - lo ≤ 900) : Calls Tryz.prog 17 #[d, .string ⟨(Lib.itoa M).toArray⟩, .int .i64 e] w fun e' w' => e' = .returned (.bool true) ∧ Mod [] w w' := by
  obtain ⟨neg, sl, l, ex, rfl, hir, hF⟩ := h
  obtain ⟨h3, h4, h5, hG⟩ := hF.digits hV hc hlo hhi
  obtain ⟨x, hx⟩ : ∃ x, ex - e = x := ⟨_, rfl⟩
  rw [hx] at hG
  have hw : wrap64 x = x := w64 rfl (by omega) (by omega)
  have t0 : (e.tmod 3 == 0) = true := by
    have := tmod3 e
    rw [decide_eq_false (by omega)] at this
    simpa [bne] using this
  have t1 : decide (0 ≤ x) = true := decide_eq_true (by omega)
  have t2 : decide (x < 3) = true := decide_eq_true (by omega)
  obtain ⟨sa, sc', rfl, -, -⟩ := hir.form
  have hd := Hd.new w 27 #[.bool neg, .slice sa l.length sc', .int .i64 x]
  have m1 : Mod [] w (w.alloc (.cells #[.bool neg, .slice sa l.length sc', .int .i64 x] 27)) := (Mod.refl [] w).alloc _
  have DT := Lib.hid (spec_text (dcv neg (.slice sa l.length sc') x) (M * sc 0) x (x + l.length) M _ ⟨neg, _, l, x, rfl, hir.mod m1, hG⟩ rfl (by omega) (by omega) (by have := hF.len (by have := hF.ge (fun h0 => hV (hF.eq0.2 h0)); have := hF.le (fun h0 => hV (hF.eq0.2 h0)); omega); omega))
  unfold dcv at DT
  have HM := Lib.hid m1
  clear hir hF hG hV hc hlo hhi h3 h4 h5 m1
  unfold dcv
  go_enter Tryz.func17, Tryz.ntmps17
  go_wp2_with fail
  refine DT.out.mono ?_
  rintro e2 w2 ⟨rfl, m2⟩
  have M2 := Lib.hid (HM.out.trans m2)
  clear m2 DT
  go_wp2_with fail
  go_ret
  exact ⟨rfl, M2.out⟩
end Go.Proofs.YtcpjclakdpjjfaaGreatDoor
namespace Go.Proofs.YtcpjclakdpjjfaaGreatDoor
open Go.RowKit Wd Dg
set_option maxRecDepth 20000 in
set_option maxHeartbeats 12800000 in
theorem canon_calls (sign : Int) (num : ByteArray) (dot : Bool) (den : ByteArray) (kind place : Int) (up : Bool) (ps : Int) (pow : ByteArray) (sc : Int) (w : World) (he : Env2 w) :
    Calls Tryz.prog 4 #[qwv sign num dot den kind place up ps pow, .int .i64 sc] w fun e w' => e = .returned (.bool true) ∧ Mod [] w w' := by
  have hd := Hd.new w 23 #[.int .i64 sign, .string num, .bool dot, .string den, .int .i64 kind, .int .i64 place, .bool up, .int .i64 ps, .string pow]
  have hm := (Mod.refl [] w).alloc (.cells #[.int .i64 sign, .string num, .bool dot, .string den, .int .i64 kind, .int .i64 place, .bool up, .int .i64 ps, .string pow] 23)
  have F := Lib.hid (fun w' => fits_calls sign num dot den kind place up ps pow w')
  have Q := Lib.hid (fun w' h1 h2 h3 => quantityOf_calls sign num dot den kind place up ps pow w' h1 h2 h3)
  have HE := Lib.hid he
  unfold qwv at *
  go_enter Tryz.func4, Tryz.ntmps4
  go_upto_region 1 with fail
  generalize w.alloc (.cells #[.int .i64 sign, .string num, .bool dot, .string den, .int .i64 kind, .int .i64 place, .bool up, .int .i64 ps, .string pow] 23) = W at *
  have HD := Lib.hid (And.intro hd hm)
  have HP := Lib.hid (fun (w' : World) (m : Mod [] W w') => Hd.mod hd m (by simp))
  have e0 := hd.cell (i := 0) rfl
  have e1 := hd.cell (i := 1) rfl
  have e2 := hd.cell (i := 2) rfl
  have e3 := hd.cell (i := 3) rfl
  have e4 := hd.cell (i := 4) rfl
  have e5 := hd.cell (i := 5) rfl
  have e6 := hd.cell (i := 6) rfl
  have e7 := hd.cell (i := 7) rfl
  have e8 := hd.cell (i := 8) rfl
  clear hd hm he
  go_wp2_with fail
  refine (F.out _).mono ?_
  rintro e w1 ⟨⟨b, rfl, hb⟩, m1⟩
  have M1 := Lib.hid m1
  have HB := Lib.hid hb
  clear m1 hb F e0 e1 e2 e3 e4 e5 e6 e7 e8
  cases b
  · go_wp2_with fail
    go_ret
    exact ⟨rfl, HD.out.2.trans M1.out⟩
  have hd1 := HP.out w1 M1.out
  have e0 := hd1.cell (i := 0) rfl
  have e1 := hd1.cell (i := 1) rfl
  have e2 := hd1.cell (i := 2) rfl
  have e3 := hd1.cell (i := 3) rfl
  have e4 := hd1.cell (i := 4) rfl
  have e5 := hd1.cell (i := 5) rfl
  have e6 := hd1.cell (i := 6) rfl
  have e7 := hd1.cell (i := 7) rfl
  have e8 := hd1.cell (i := 8) rfl
  have Q' := Lib.hid (by have h := HB.out; simp only [forall_const] at h; exact Q.out w1 h.1 h.2.1 h.2.2)
  clear hd1 Q HB
  go_wp2_with fail
  refine Q'.out.mono ?_
  rintro e w2 ⟨tx, d, c, ok, V, rfl, hdc, hok, m2⟩
  have M2 := Lib.hid (M1.out.trans m2)
  have HOK := Lib.hid hok
  have HDC := Lib.hid hdc
  obtain ⟨neg, sl, l, ex, rfl, hir, -⟩ := hdc
  obtain ⟨sa, sc', rfl, -, -⟩ := hir.form
  clear m2 hok hir Q' e0 e1 e2 e3 e4 e5 e6 e7 e8
  unfold dcv
  cases ok
  · go_wp2_with fail
    go_ret
    exact ⟨rfl, (HD.out.2.trans M2.out).alloc _⟩
  have hh := HOK.out (by first | rfl | trivial)
  obtain ⟨fn, rfl⟩ : ∃ fn : Nat, kind = fn := ⟨kind.toNat, by rcases hh.1.k with ⟨h, -⟩ | ⟨h, -⟩ | ⟨h, -⟩ <;> omega⟩
  rw [Int.toNat_natCast] at hh
  have hfn3 : fn = 0 ∨ fn = 1 ∨ fn = 2 := by rcases hh.1.k with ⟨h, -⟩ | ⟨h, -⟩ | ⟨h, -⟩ <;> omega
  have HWT := Lib.hid (And.intro hh.2.2.1 hfn3)
  clear hh HOK hfn3
  by_cases h1 : sc < -9
  · have t1 : decide (sc < -9) = true := decide_eq_true h1
    go_wp2_with fail
    go_ret
    exact ⟨rfl, (HD.out.2.trans M2.out).alloc _⟩
  have t1 : decide (sc < -9) = false := decide_eq_false h1
  by_cases h2 : 18 < sc
  · have t2 : decide (18 < sc) = true := decide_eq_true h2
    go_wp2_with fail
    go_ret
    exact ⟨rfl, (HD.out.2.trans M2.out).alloc _⟩
  have t2 : decide (18 < sc) = false := decide_eq_false h2
  go_upto_region 4 with fail
  have hdd := Hd.new w2 27 #[.bool neg, .slice sa l.length sc', .int .i64 ex]
  have m3 : Mod [] w2 (w2.alloc (.cells #[.bool neg, .slice sa l.length sc', .int .i64 ex] 27)) := (Mod.refl [] w2).alloc _
  generalize w2.alloc (.cells #[.bool neg, .slice sa l.length sc', .int .i64 ex] 27) = W3 at *
  generalize w2.heap.size = bd at *
  have M3 := Lib.hid (M2.out.trans m3)
  have DC := Lib.hid (HDC.out.mod m3)
  have HPd := Lib.hid (fun (w' : World) (m : Mod [] W3 w') => Hd.mod hdd m (by simp))
  have r0 := hdd.cell (i := 0) rfl
  have r1 := hdd.cell (i := 1) rfl
  have r2 := hdd.cell (i := 2) rfl
  have SS := Lib.hid (spec_sign _ V (-170) 240 W3 DC.out)
  unfold dcv at SS
  clear hdd m3 HDC
  go_wp2_with fail
  refine SS.out.mono ?_
  rintro e w4 ⟨rfl, m4⟩
  have M4 := Lib.hid m4
  clear m4 SS r0 r1 r2
  obtain ⟨r, hr⟩ : ∃ r, sgV V = r := ⟨_, rfl⟩
  rw [hr]
  have d1 := HPd.out w4 M4.out
  have r0 := d1.cell (i := 0) rfl
  have r1 := d1.cell (i := 1) rfl
  have r2 := d1.cell (i := 2) rfl
  by_cases hV0 : V = 0
  · have t3 : (r == 0) = true := by rw [← hr, hV0]; rfl
    clear hr hV0
    go_wp2_with fail
    go_ret
    exact ⟨rfl, HD.out.2.trans (M3.out.trans M4.out)⟩
  have t3 : (r == 0) = false := by
    rw [beq_eq_false_iff_ne, ← hr]
    unfold sgV
    split <;> first | decide | (rename_i h; exact absurd h hV0)
  have HV0 := Lib.hid hV0
  have HSC := Lib.hid (show -9 ≤ sc ∧ sc ≤ 18 by omega)
  have QC := Lib.hid (qcanon_calls tx fn V w4 (HE.out.mod (HD.out.2.trans (M3.out.trans M4.out)) (by simp)) HWT.out.1 hV0)
  clear hr hV0 d1 h1 h2 r0 r1 r2
  go_wp2_with fail
  refine QC.out.mono ?_
  rintro e w5 ⟨n1, x1, rfl, hcn, q1, q2, m5⟩
  have N5 := Lib.hid (M4.out.trans m5)
  have HC1 := Lib.hid (And.intro hcn (And.intro q1 q2))
  obtain ⟨s1, hs1⟩ : ∃ s1 : ByteArray, (⟨(Lib.itoa n1).toArray⟩ : ByteArray) = s1 := ⟨_, rfl⟩
  rw [hs1]
  have HS1 := Lib.hid hs1
  have d1 := HPd.out w5 N5.out
  have r0 := d1.cell (i := 0) rfl
  have r1 := d1.cell (i := 1) rfl
  have r2 := d1.cell (i := 2) rfl
  have SU := Lib.hid (spec_up _ V sc w5 ((DC.out.mod N5.out).mono (lo' := -170) (hi' := 260) (by decide) (by decide) (by decide) (by decide)) HSC.out.1 HSC.out.2)
  unfold dcv at SU
  clear hcn q1 q2 m5 hs1 d1 QC
  go_wp2_with fail
  refine SU.out.mono ?_
  rintro e w6 ⟨d2, b2, rfl, hd2, hb2, m6⟩
  have hb3 : decide (rup10 V sc = V) = b2 := by
    by_cases h : rup10 V sc = V
    · rw [decide_eq_true h]; exact (hb2.2 h).symm
    · rw [decide_eq_false h]
      cases b2
      · rfl
      · exact (h (hb2.1 rfl)).elim
  have HB2 := Lib.hid hb3
  have N6 := Lib.hid (N5.out.trans m6)
  have HD2 := Lib.hid hd2
  obtain ⟨neg2, sl2, l2, ex2, rfl, hir2, -⟩ := hd2
  obtain ⟨sa2, sc2, rfl, -, -⟩ := hir2.form
  clear hb2 hb3 m6 hir2 SU r0 r1 r2 N5
  unfold dcv
  go_upto_region 8 with fail
  have hde := Hd.new w6 27 #[.bool neg2, .slice sa2 l2.length sc2, .int .i64 ex2]
  have m7 : Mod [] w6 (w6.alloc (.cells #[.bool neg2, .slice sa2 l2.length sc2, .int .i64 ex2] 27)) := (Mod.refl [] w6).alloc _
  generalize w6.alloc (.cells #[.bool neg2, .slice sa2 l2.length sc2, .int .i64 ex2] 27) = W7 at *
  generalize w6.heap.size = be at *
  have N7 := Lib.hid (N6.out.trans m7)
  have DC2 := Lib.hid (HD2.out.mod m7)
  have HPe := Lib.hid (fun (w' : World) (m : Mod [] W7 w') => Hd.mod hde m (by simp))
  have QA := Lib.hid (qasScale_calls tx fn V sc W7 (HE.out.mod (HD.out.2.trans (M3.out.trans (N6.out.trans m7))) (by simp)) HWT.out.1 HV0.out HSC.out.1 HSC.out.2)
  clear hde m7 HD2 N6
  go_wp2_with fail
  refine QA.out.mono ?_
  rintro e w8 ⟨n2, x2, rfl, hcn, q1, q2, m8⟩
  have N8 := Lib.hid (N7.out.trans m8)
  have O8 := Lib.hid m8
  have HC2 := Lib.hid (And.intro hcn (And.intro q1 q2))
  obtain ⟨s2, hs2⟩ : ∃ s2 : ByteArray, (⟨(Lib.itoa n2).toArray⟩ : ByteArray) = s2 := ⟨_, rfl⟩
  rw [hs2, HB2.out]
  have HS2 := Lib.hid hs2
  have d1 := HPd.out w8 N8.out
  have r0 := d1.cell (i := 0) rfl
  have r1 := d1.cell (i := 1) rfl
  have r2 := d1.cell (i := 2) rfl
  have DG := Lib.hid (digitsAt_calls _ V n1 x1 (-170) 240 w8 (DC.out.mod N8.out) HV0.out HC1.out.1 (by decide) (by decide))
  rw [HS1.out] at DG
  unfold dcv at DG
  clear hcn q1 q2 m8 hs2 d1 QA
  go_wp2_with fail
  refine DG.out.mono ?_
  rintro e w9 ⟨rfl, m9⟩
  have N9 := Lib.hid (N8.out.trans m9)
  have O9 := Lib.hid (O8.out.trans m9)
  have d1 := HPe.out w9 O9.out
  clear r0 r1 r2
  have r0 := d1.cell (i := 0) rfl
  have r1 := d1.cell (i := 1) rfl
  have r2 := d1.cell (i := 2) rfl
  have DG2 := Lib.hid (digitsAt_calls _ (rup10 V sc) n2 x2 (-170) 300 w9 (DC2.out.mod O9.out) (rup10_ne0 sc HV0.out) HC2.out.1 (by decide) (by decide))
  rw [HS2.out] at DG2
  unfold dcv at DG2
  clear m9 d1 DG
  go_wp2_with fail
  refine DG2.out.mono ?_
  rintro e w10 ⟨rfl, m10⟩
  have N10 := Lib.hid (M3.out.trans (N9.out.trans m10))
  have AW := Lib.hid (awake_calls w10 (HE.out.mod (HD.out.2.trans N10.out) (by simp)))
  clear m10 r0 r1 r2 DG2
  go_wp2_with fail
  refine AW.out.mono ?_
  rintro e w11 ⟨rfl, m11⟩
  have N11 := Lib.hid (N10.out.trans m11)
  clear m11 AW
  go_wp2_with fail
  go_ret
  exact ⟨rfl, HD.out.2.trans N11.out⟩
end Go.Proofs.YtcpjclakdpjjfaaGreatDoor
