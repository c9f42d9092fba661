/- A quantity times a number is that of its number, and the opposite one: the walk (laws: FnQuantityTimes). -/
import Derived.Test.YtcpjclakdpjjfaaGreatDoorC43
import Derived.Test.YtcpjclakdpjjfaaGreatDoorC46
import Derived.Test.YtcpjclakdpjjfaaGreatDoorC35
import Derived.Deep.RegionHeld3
import Derived.Deep.RegionLaw
namespace Go.Proofs.YtcpjclakdpjjfaaGreatDoor
open Go.RowKit Wd Dg
/-- A quantity laid behind, its cells in sight, its blocks new. -/
theorem PqRet.fresh {w w1 : World} {v s V : Int} {q : Option Addr} {st fb : ByteArray} {bl : List Nat} (ok : QOk w1 v s (.pointer q) V bl) (hn : ∀ k, k ∈ bl → w.heap.size ≤ k) (m : Mod [] w w1) (he : Env2 w) :
    (Qy (w1.alloc (.cells (qc v s (.pointer q) (.string st) (.string fb)) 70)) w1.heap.size V (.string fb) bl ∧ Hd (w1.alloc (.cells (qc v s (.pointer q) (.string st) (.string fb)) 70)) w1.heap.size 70 (qc v s (.pointer q) (.string st) (.string fb)) ∧ QOk (w1.alloc (.cells (qc v s (.pointer q) (.string st) (.string fb)) 70)) v s (.pointer q) V bl) ∧
    Env2 (w1.alloc (.cells (qc v s (.pointer q) (.string st) (.string fb)) 70)) ∧ Mod [] w (w1.alloc (.cells (qc v s (.pointer q) (.string st) (.string fb)) 70)) ∧ ∀ k, k ∈ w1.heap.size :: bl → w.heap.size ≤ k := by
  have ma : Mod [] w1 (w1.alloc (.cells (qc v s (.pointer q) (.string st) (.string fb)) 70)) := (Mod.refl [] w1).alloc _
  have he1 := he.mod m (by simp)
  have hd := Hd.new w1 70 (qc v s (.pointer q) (.string st) (.string fb))
  refine ⟨⟨⟨⟨v, s, .pointer q, .string st, hd, ok.mod ma (by simp)⟩, he1.env.big⟩, hd, ok.mod ma (by simp)⟩, he1.mod ma (by simp), m.trans ma, fun k hk => ?_⟩
  rcases List.mem_cons.1 hk with rfl | hk
  · exact m.size
  · exact hn k hk
/-- What is turned in place is turned behind. -/
theorem QtR.behind {w W w' : World} {bq : Nat} {bl : List Nat} {V : Int} {f : Value} (h : QtR W bq bl V f w') (hn : ∀ k, k ∈ bq :: bl → w.heap.size ≤ k) (m : Mod [] w W) (he : Env2 W) (hlo : 19 ≤ w.heap.size) : ∃ bl', Qy w' bq V f bl' ∧ Env2 w' ∧ Mod [] w w' := by
  obtain ⟨bl', h1, h2, -⟩ := h
  exact ⟨bl', h1, he.mod h2 (fun k hk => Nat.le_trans hlo (hn k hk)), m.step h2 (fun k hk => .inr (hn k hk))⟩
set_option maxHeartbeats 3200000 in
theorem qsign_calls (s : ByteArray) (fn : Nat) (V : Int) (w : World) (he : Env2 w) (h : WordT s fn V) : Calls Tryz.prog 21 #[.string s] w fun e w' => e = .returned (.tuple #[.int .i64 (sgnI V), .bool (decide (V = 0)), .int .i64 0]) ∧ Mod [] w w' := by
  have P := Lib.hid (parse_calls s fn V w he h)
  have HH := Lib.hid he
  clear he h
  go_enter Tryz.func21, Tryz.ntmps21
  go_wp2_with fail
  refine P.out.mono ?_
  rintro e w1 ⟨v, sc, q, st, fb, bl, rfl, hf, ok, hn, hm, m⟩
  have L := Lib.hid (PqRet.fresh (st := st) (fb := fb) ok hn m HH.out)
  clear hf ok hn hm m P
  unfold qv
  go_upto_region 4 with fail
  obtain ⟨⟨hq, -, -⟩, hee, hm, -⟩ := L.out
  unfold qc at hq hee hm
  generalize w1.alloc (.cells #[.int .i64 v, .int .i32 sc, .pointer q, .string st, .string fb] 70) = W at *
  generalize w1.heap.size = bq at *
  have S := Lib.hid (q_sign bq V _ bl W hq)
  have Z := Lib.hid (fun w' (m : Mod [] W w') => q_isZero bq V _ bl w' (hq.mod m (by simp) (by simp)))
  have HM := Lib.hid hm
  clear hq hee hm L
  go_wp2_with fail
  refine S.out.mono ?_
  rintro e w2 ⟨rfl, m2⟩
  have Z' := Lib.hid (Z.out w2 m2)
  have M2 := Lib.hid (HM.out.trans m2)
  clear m2 S Z
  go_wp2_with fail
  refine Z'.out.mono ?_
  rintro e w3 ⟨rfl, rfl⟩
  obtain ⟨z, hz⟩ : ∃ z, decide (V = 0) = z := ⟨_, rfl⟩
  rw [hz]
  have HZ := Lib.hid hz
  clear hz
  go_wp2_with fail
  go_ret3
  exact ⟨by rw [← HZ.out]; rfl, M2.out⟩
set_option maxHeartbeats 3200000 in
theorem qneg_calls (s : ByteArray) (fn : Nat) (V : Int) (w : World) (he : Env2 w) (h : WordT s fn V) (hc : CanOk fn (-V)) : Calls Tryz.prog 27 #[.string s] w fun e w' => ∃ t : List UInt8, e = .returned (.tuple #[.string ⟨t.toArray⟩, .int .i64 0]) ∧ CanTxt fn (-V) t ∧ Mod [] w w' := by
  have P := Lib.hid (parse_calls s fn V w he h)
  have HH := Lib.hid (And.intro he (And.intro h.ok hc))
  clear he h hc
  go_enter Tryz.func27, Tryz.ntmps27
  go_wp2_with fail
  refine P.out.mono ?_
  rintro e w1 ⟨v, sc, q, st, fb, bl, rfl, hf, ok, hn, hm, m⟩
  have L := Lib.hid (PqRet.fresh (st := st) (fb := fb) ok hn m HH.out.1)
  have HF := Lib.hid (And.intro hf hm)
  clear hf ok hn hm m P
  unfold qv
  go_upto_region 4 with fail
  obtain ⟨⟨hq, hd, hqo⟩, hee, hm, hfr⟩ := L.out
  unfold qc at hq hd hee hm hqo
  generalize w1.alloc (.cells #[.int .i64 v, .int .i32 sc, .pointer q, .string st, .string fb] 70) = W at *
  generalize w1.heap.size = bq at *
  have C := Lib.hid (q_neg bq v sc _ _ _ V bl W hd hqo hq.lo HF.out.2)
  have HM := Lib.hid (And.intro hm (And.intro hfr hee))
  clear hq hd hqo hee hm hfr L
  go_wp2_with fail
  refine C.out.mono ?_
  rintro e w2 ⟨rfl, hqt⟩
  have R := Lib.hid (hqt.behind HM.out.2.1 HM.out.1 HM.out.2.2 HH.out.1.env.big)
  obtain ⟨bl', k1, k2, k3⟩ := R.out
  have CC := Lib.hid (canonical_calls fb fn HF.out.1 bq _ bl' w2 k2 k1 (can_may HH.out.2.2))
  have K3 := Lib.hid k3
  clear hqt k1 k2 k3 R C
  go_wp2_with fail
  refine CC.out.mono ?_
  rintro e w3 ⟨t, rfl, ht, m3⟩
  have HT := Lib.hid ht
  have M3 := Lib.hid (K3.out.trans m3)
  clear ht m3 CC
  go_wp2_with fail
  go_ret2
  exact ⟨t, rfl, HT.out, M3.out⟩
set_option maxHeartbeats 3200000 in
theorem qmul_calls (s : ByteArray) (fn : Nat) (V y : Int) (w : World) (he : Env2 w) (h : WordT s fn V) (hy : i64 y) (hc : CanOk fn (V * y)) : Calls Tryz.prog 25 #[.string s, .int .i64 y] w fun e w' => ∃ t : List UInt8, (∃ ok : Bool, e = .returned (.tuple #[.string ⟨t.toArray⟩, .bool ok, .int .i64 0])) ∧ CanTxt fn (V * y) t ∧ Mod [] w w' := by
  have P := Lib.hid (parse_calls s fn V w he h)
  have HH := Lib.hid (And.intro he (And.intro h.ok hc))
  have HY := Lib.hid hy
  clear hy
  clear he h hc
  go_enter Tryz.func25, Tryz.ntmps25
  go_wp2_with fail
  refine P.out.mono ?_
  rintro e w1 ⟨v, sc, q, st, fb, bl, rfl, hf, ok, hn, hm, m⟩
  have L := Lib.hid (PqRet.fresh (st := st) (fb := fb) ok hn m HH.out.1)
  have HF := Lib.hid (And.intro hf hm)
  clear hf ok hn hm m P
  unfold qv
  go_upto_region 4 with fail
  obtain ⟨⟨hq, hd, hqo⟩, hee, hm, hfr⟩ := L.out
  unfold qc at hq hd hee hm hqo
  generalize w1.alloc (.cells #[.int .i64 v, .int .i32 sc, .pointer q, .string st, .string fb] 70) = W at *
  generalize w1.heap.size = bq at *
  have C := Lib.hid (q_mul bq V y _ bl W hee hq HY.out (can_vb HH.out.2.2))
  have HM := Lib.hid (And.intro hm (And.intro hfr hee))
  clear hq hd hqo hee hm hfr L
  go_wp2_with fail
  refine C.out.mono ?_
  rintro e w2 ⟨⟨ok, rfl⟩, hqt⟩
  have R := Lib.hid (hqt.behind HM.out.2.1 HM.out.1 HM.out.2.2 HH.out.1.env.big)
  obtain ⟨bl', k1, k2, k3⟩ := R.out
  have CC := Lib.hid (canonical_calls fb fn HF.out.1 bq _ bl' w2 k2 k1 (can_may HH.out.2.2))
  have K3 := Lib.hid k3
  clear hqt k1 k2 k3 R C
  go_wp2_with fail
  refine CC.out.mono ?_
  rintro e w3 ⟨t, rfl, ht, m3⟩
  have HT := Lib.hid ht
  have M3 := Lib.hid (K3.out.trans m3)
  clear ht m3 CC
  go_wp2_with fail
  go_ret3
  exact ⟨t, ⟨ok, rfl⟩, HT.out, M3.out⟩
set_option maxHeartbeats 3200000 in
theorem qround_calls (s : ByteArray) (fn : Nat) (V c : Int) (w : World) (he : Env2 w) (h : WordT s fn V) (h1 : -9 ≤ c) (h2 : c ≤ 18) (hc : CanOk fn (rup10 V c)) : Calls Tryz.prog 19 #[.string s, .int .i64 c] w fun e w' => ∃ t : List UInt8, e = .returned (.tuple #[.string ⟨t.toArray⟩, .bool (decide (rup10 V c = V)), .int .i64 0]) ∧ CanTxt fn (rup10 V c) t ∧ Mod [] w w' := by
  have P := Lib.hid (parse_calls s fn V w he h)
  have HH := Lib.hid (And.intro he (And.intro h.ok hc))
  have HY := Lib.hid (And.intro h1 h2)
  clear he h hc
  go_enter Tryz.func19, Tryz.ntmps19
  go_wp2_with fail
  refine P.out.mono ?_
  rintro e w1 ⟨v, sc, q, st, fb, bl, rfl, hf, ok, hn, hm, m⟩
  have L := Lib.hid (PqRet.fresh (st := st) (fb := fb) ok hn m HH.out.1)
  have HF := Lib.hid (And.intro hf hm)
  clear hf ok hn hm m P
  unfold qv
  go_upto_region 4 with fail
  obtain ⟨⟨hq, hd, hqo⟩, hee, hm, hfr⟩ := L.out
  unfold qc at hq hd hee hm hqo
  generalize w1.alloc (.cells #[.int .i64 v, .int .i32 sc, .pointer q, .string st, .string fb] 70) = W at *
  generalize w1.heap.size = bq at *
  have C := Lib.hid (q_roundUp bq V c _ bl W hee hq (can_vb HH.out.2.1) HY.out.1 HY.out.2)
  have HM := Lib.hid (And.intro hm (And.intro hfr hee))
  clear hq hd hqo hee hm hfr L
  go_wp2_with fail
  refine C.out.mono ?_
  rintro e w2 ⟨rfl, hqt⟩
  have R := Lib.hid (hqt.behind HM.out.2.1 HM.out.1 HM.out.2.2 HH.out.1.env.big)
  obtain ⟨bl', k1, k2, k3⟩ := R.out
  have CC := Lib.hid (canonical_calls fb fn HF.out.1 bq _ bl' w2 k2 k1 (can_may HH.out.2.2))
  have K3 := Lib.hid k3
  clear hqt k1 k2 k3 R C
  go_wp2_with fail
  refine CC.out.mono ?_
  rintro e w3 ⟨t, rfl, ht, m3⟩
  have HT := Lib.hid ht
  have M3 := Lib.hid (K3.out.trans m3)
  clear ht m3 CC
  go_wp2_with fail
  go_ret3
  exact ⟨t, rfl, HT.out, M3.out⟩
end Go.Proofs.YtcpjclakdpjjfaaGreatDoor
namespace Go.Proofs.YtcpjclakdpjjfaaGreatDoor
open Go.RowKit Wd Dg
set_option maxRecDepth 20000 in
set_option maxHeartbeats 12800000 in
theorem times_calls (sign : Int) (num : ByteArray) (dot : Bool) (den : ByteArray) (kind place : Int) (up : Bool) (ps : Int) (pow : ByteArray) (x : Int) (w : World) (he : Env2 w) (hx : i64 x) :
    Calls Tryz.prog 7 #[qwv sign num dot den kind place up ps pow, .int .i64 x] w fun e w' => e = .returned (.bool true) ∧ Mod [] w w' := by
  have hd := Hd.new w 23 #[.int .i64 sign, .string num, .bool dot, .string den, .int .i64 kind, .int .i64 place, .bool up, .int .i64 ps, .string pow]
  have hm := (Mod.refl [] w).alloc (.cells #[.int .i64 sign, .string num, .bool dot, .string den, .int .i64 kind, .int .i64 place, .bool up, .int .i64 ps, .string pow] 23)
  have F := Lib.hid (fun w' => fits_calls sign num dot den kind place up ps pow w')
  have Q := Lib.hid (fun w' h1 h2 h3 => quantityOf_calls sign num dot den kind place up ps pow w' h1 h2 h3)
  have HE := Lib.hid he
  have HX := Lib.hid hx
  clear hx
  unfold qwv at *
  go_enter Tryz.func7, Tryz.ntmps7
  go_upto_region 1 with fail
  generalize w.alloc (.cells #[.int .i64 sign, .string num, .bool dot, .string den, .int .i64 kind, .int .i64 place, .bool up, .int .i64 ps, .string pow] 23) = W at *
  have HD := Lib.hid (And.intro hd hm)
  have HP := Lib.hid (fun (w' : World) (m : Mod [] W w') => Hd.mod hd m (by simp))
  have e0 := hd.cell (i := 0) rfl
  have e1 := hd.cell (i := 1) rfl
  have e2 := hd.cell (i := 2) rfl
  have e3 := hd.cell (i := 3) rfl
  have e4 := hd.cell (i := 4) rfl
  have e5 := hd.cell (i := 5) rfl
  have e6 := hd.cell (i := 6) rfl
  have e7 := hd.cell (i := 7) rfl
  have e8 := hd.cell (i := 8) rfl
  clear hd hm he
  go_wp2_with fail
  refine (F.out _).mono ?_
  rintro e w1 ⟨⟨b, rfl, hb⟩, m1⟩
  have M1 := Lib.hid m1
  have HB := Lib.hid hb
  clear m1 hb F e0 e1 e2 e3 e4 e5 e6 e7 e8
  cases b
  · go_wp2_with fail
    go_ret
    exact ⟨rfl, HD.out.2.trans M1.out⟩
  have hd1 := HP.out w1 M1.out
  have e0 := hd1.cell (i := 0) rfl
  have e1 := hd1.cell (i := 1) rfl
  have e2 := hd1.cell (i := 2) rfl
  have e3 := hd1.cell (i := 3) rfl
  have e4 := hd1.cell (i := 4) rfl
  have e5 := hd1.cell (i := 5) rfl
  have e6 := hd1.cell (i := 6) rfl
  have e7 := hd1.cell (i := 7) rfl
  have e8 := hd1.cell (i := 8) rfl
  have Q' := Lib.hid (by have h := HB.out; simp only [forall_const] at h; exact Q.out w1 h.1 h.2.1 h.2.2)
  clear hd1 Q HB
  go_wp2_with fail
  refine Q'.out.mono ?_
  rintro e w2 ⟨tx, d, c, ok, V, rfl, hdc, hok, m2⟩
  have M2 := Lib.hid (M1.out.trans m2)
  have HOK := Lib.hid hok
  have HDC := Lib.hid hdc
  obtain ⟨neg, sl, l, ex, rfl, hir, -⟩ := hdc
  obtain ⟨sa, sc', rfl, -, -⟩ := hir.form
  clear m2 hok hir Q' e0 e1 e2 e3 e4 e5 e6 e7 e8
  unfold dcv
  cases ok
  · go_wp2_with fail
    go_ret
    exact ⟨rfl, (HD.out.2.trans M2.out).alloc _⟩
  have hh := HOK.out (by first | rfl | trivial)
  obtain ⟨fn, rfl⟩ : ∃ fn : Nat, kind = fn := ⟨kind.toNat, by rcases hh.1.k with ⟨h, -⟩ | ⟨h, -⟩ | ⟨h, -⟩ <;> omega⟩
  rw [Int.toNat_natCast] at hh
  have hfn3 : fn = 0 ∨ fn = 1 ∨ fn = 2 := by rcases hh.1.k with ⟨h, -⟩ | ⟨h, -⟩ | ⟨h, -⟩ <;> omega
  have HWT := Lib.hid (And.intro hh.2.2.1 hfn3)
  clear hh HOK hfn3
  go_upto_region 6 with fail
  have hdd := Hd.new w2 27 #[.bool neg, .slice sa l.length sc', .int .i64 ex]
  have m3 : Mod [] w2 (w2.alloc (.cells #[.bool neg, .slice sa l.length sc', .int .i64 ex] 27)) := (Mod.refl [] w2).alloc _
  generalize w2.alloc (.cells #[.bool neg, .slice sa l.length sc', .int .i64 ex] 27) = W3 at *
  generalize w2.heap.size = bd at *
  have M3 := Lib.hid (M2.out.trans m3)
  have DC := Lib.hid (HDC.out.mod m3)
  have HPd := Lib.hid (fun (w' : World) (m : Mod [] W3 w') => Hd.mod hdd m (by simp))
  have HPw := Lib.hid (fun (w' : World) (m : Mod [] W3 w') => show w'.cell? ⟨w.heap.size, 4, none⟩ = some (.int .i64 (fn : Int)) from (HP.out w' (M3.out.trans m)).cell (i := 4) rfl)
  have HPS := Lib.hid (fun (w' : World) (m : Mod [] W3 w') => show (w'.cell? ⟨bd, 0, none⟩ = some (.bool neg) ∧ w'.cell? ⟨bd, 1, none⟩ = some (.slice sa l.length sc') ∧ w'.cell? ⟨bd, 2, none⟩ = some (.int .i64 ex)) ∧ w'.cell? ⟨w.heap.size, 4, none⟩ = some (.int .i64 (fn : Int)) from
    ⟨⟨(HPd.out w' m).cell (i := 0) rfl, (HPd.out w' m).cell (i := 1) rfl, (HPd.out w' m).cell (i := 2) rfl⟩, HPw.out w' m⟩)
  have OF := Lib.hid (fun w' => decimalOf_calls x 0 w' HX.out (by decide) (by decide))
  have TM := Lib.hid (fun d2 w' (m : Mod [] W3 w') (h2 : Dc w' d2 (x * sc 0) 0 (0 + 20)) => spec_times _ d2 V (x * sc 0) (V * x) (-170) 240 0 (0 + 20) w' (DC.out.mod m) h2 (by decide) (by decide) (by decide) (by decide) (by decide) (by decide) (by decide) (by decide) (by rw [Int.mul_assoc]))
  have CN := Lib.hid (fun d3 w' (h3 : Dc w' d3 (V * x) (-170 + 0) (240 + (0 + 20) + 1)) => spec_canonical fn HWT.out.2 d3 (V * x) _ _ w' h3 (by decide) (by decide))
  unfold dcv at TM
  obtain ⟨⟨r0, r1, r2⟩, e4⟩ := HPS.out W3 (Mod.refl [] W3)
  clear hdd m3 HDC HPw HPd HP
  first | (go_region_held3 (fun w' => (w'.cell? ⟨bd, 0, none⟩ = some (.bool neg) ∧ w'.cell? ⟨bd, 1, none⟩ = some (.slice sa l.length sc') ∧ w'.cell? ⟨bd, 2, none⟩ = some (.int .i64 ex)) ∧ w'.cell? ⟨w.heap.size, 4, none⟩ = some (.int .i64 (fn : Int))) (go_keep) (first | (go_at_call 24; refine (OF.out _).mono ?_; rintro e w4 ⟨d2, rfl, hd2, m4⟩; have M4 := Lib.hid (((Mod.refl [] W3).drewN _).trans m4); obtain ⟨⟨a0, a1, a2⟩, a4⟩ := HPS.out w4 M4.out; have TX := Lib.hid (TM.out d2 w4 M4.out hd2); clear m4 hd2 OF) | (go_at_call 23; refine TX.out.mono ?_; rintro e w5 ⟨d3, rfl, hd3, m5⟩; have M5 := Lib.hid (M4.out.trans m5); obtain ⟨⟨b0, b1, b2⟩, b4⟩ := HPS.out w5 M5.out; have CX := Lib.hid (CN.out d3 w5 hd3); clear m5 hd3 TX) | (go_at_call 18; refine CX.out.mono ?_; rintro e w6 ⟨t1, bc, rfl, hbc, hct, m6⟩; have M6 := Lib.hid (M5.out.trans m6); obtain ⟨⟨c0, c1, c2⟩, c4⟩ := HPS.out w6 M6.out; have HBC := Lib.hid (And.intro hbc hct); clear m6 hbc hct CX))) | fail "the first region"
  cases bc
  case' false =>
    go_upto_region 11 with fail
    generalize w6 = w7 at *
    have M7 := M6
  case' true =>
    have QM := Lib.hid (qmul_calls tx fn V x w6 (HE.out.mod (HD.out.2.trans (M3.out.trans M6.out)) (by simp)) HWT.out.1 HX.out (HBC.out.1.1 (by first | rfl | trivial)))
    go_wp2_with fail
    refine QM.out.mono ?_
    rintro e w7 ⟨t, ⟨ok2, rfl⟩, ht, m7⟩
    obtain rfl := ht.unique (HBC.out.2 (by first | rfl | trivial))
    have M7 := Lib.hid (M6.out.trans m7)
    clear ht m7 QM
    go_upto_region 11 with fail
  all_goals
    have HPS7 := Lib.hid (fun w' (m : Mod [] w7 w') => HPS.out w' (M7.out.trans m))
    have NG := Lib.hid (fun w' (m : Mod [] w7 w') => spec_neg _ V (-170) 240 w' (DC.out.mod (M7.out.trans m)))
    have CN2 := Lib.hid (fun d3 w' (h3 : Dc w' d3 (-V) (-170) 240) => spec_canonical fn HWT.out.2 d3 (-V) (-170) 240 w' h3 (by decide) (by decide))
    unfold dcv at NG
    obtain ⟨⟨p0, p1, p2⟩, p4⟩ := HPS7.out w7 (Mod.refl [] w7)
    clear HBC
    first | (go_region_held3 (fun w' => (w'.cell? ⟨bd, 0, none⟩ = some (.bool neg) ∧ w'.cell? ⟨bd, 1, none⟩ = some (.slice sa l.length sc') ∧ w'.cell? ⟨bd, 2, none⟩ = some (.int .i64 ex)) ∧ w'.cell? ⟨w.heap.size, 4, none⟩ = some (.int .i64 (fn : Int))) (go_keep) (first | (go_at_call 26; refine (NG.out _ ((Mod.refl [] w7).drewN _)).mono ?_; rintro e w8 ⟨d3, rfl, hd3, m8⟩; have M8 := Lib.hid (((Mod.refl [] w7).drewN _).trans m8); obtain ⟨⟨q0, q1, q2⟩, q4⟩ := HPS7.out w8 M8.out; have CX := Lib.hid (CN2.out d3 w8 hd3); clear m8 hd3 NG) | (go_at_call 18; refine CX.out.mono ?_; rintro e w9 ⟨t2, b2, rfl, hbc, hct, m9⟩; have M9 := Lib.hid (M8.out.trans m9); obtain ⟨⟨s0, s1, s2⟩, s4⟩ := HPS7.out w9 M9.out; have HBC := Lib.hid (And.intro hbc hct); clear m9 hbc hct CX))) | fail "the second region"
    obtain rfl : b2 = true := HBC.out.1.2 HWT.out.1.ok.neg
    have QN := Lib.hid (qneg_calls tx fn V w9 (HE.out.mod (HD.out.2.trans (M3.out.trans (M7.out.trans M9.out))) (by simp)) HWT.out.1 HWT.out.1.ok.neg)
    go_wp2_with fail
    refine QN.out.mono ?_
    rintro e w10 ⟨t3, rfl, ht, m10⟩
    obtain rfl := ht.unique (HBC.out.2 (by first | rfl | trivial))
    have M10 := Lib.hid (M3.out.trans (M7.out.trans (M9.out.trans m10)))
    have AW := Lib.hid (awake_calls w10 (HE.out.mod (HD.out.2.trans M10.out) (by simp)))
    clear ht m10 QN
    go_wp2_with fail
    refine AW.out.mono ?_
    rintro e w11 ⟨rfl, m11⟩
    have M11 := Lib.hid (M10.out.trans m11)
    clear m11 AW
    go_wp2_with fail
    go_ret
    exact ⟨rfl, HD.out.2.trans M11.out⟩
end Go.Proofs.YtcpjclakdpjjfaaGreatDoor
