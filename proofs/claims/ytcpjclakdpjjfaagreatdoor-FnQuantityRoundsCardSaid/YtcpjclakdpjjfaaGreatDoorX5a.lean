/- A quantity rounded up to a scale is its number away from 0 to a multiple of that power of ten: the walk (laws: FnQuantityRounds). -/
import Derived.Test.YtcpjclakdpjjfaaGreatDoorC43
import Derived.Test.YtcpjclakdpjjfaaGreatDoorC46
import Derived.Test.YtcpjclakdpjjfaaGreatDoorC35
import Derived.Test.YtcpjclakdpjjfaaGreatDoorC44
namespace Go.Proofs.YtcpjclakdpjjfaaGreatDoor
open Go.RowKit Wd Dg
/-- A quantity laid behind, its cells in sight, its blocks new. -/
theorem PqRet.fresh {w w1 : World} {v s V : Int} {q : Option Addr} {st fb : ByteArray} {bl : List Nat} (ok : QOk w1 v s (.pointer q) V bl) (hn : ∀ k, k ∈ bl → w.heap.size ≤ k) (m : Mod [] w w1) (he : Env2 w) :
    (Qy (w1.alloc (.cells (qc v s (.pointer q) (.string st) (.string fb)) 70)) w1.heap.size V (.string fb) bl ∧ Hd (w1.alloc (.cells (qc v s (.pointer q) (.string st) (.string fb)) 70)) w1.heap.size 70 (qc v s (.pointer q) (.string st) (.string fb)) ∧ QOk (w1.alloc (.cells (qc v s (.pointer q) (.string st) (.string fb)) 70)) v s (.pointer q) V bl) ∧
    Env2 (w1.alloc (.cells (qc v s (.pointer q) (.string st) (.string fb)) 70)) ∧ Mod [] w (w1.alloc (.cells (qc v s (.pointer q) (.string st) (.string fb)) 70)) ∧ ∀ k, k ∈ w1.heap.size :: bl → w.heap.size ≤ k := by
  have ma : Mod [] w1 (w1.alloc (.cells (qc v s (.pointer q) (.string st) (.string fb)) 70)) := (Mod.refl [] w1).alloc _
  have he1 := he.mod m (by simp)
  have hd := Hd.new w1 70 (qc v s (.pointer q) (.string st) (.string fb))
  refine ⟨⟨⟨⟨v, s, .pointer q, .string st, hd, ok.mod ma (by simp)⟩, he1.env.big⟩, hd, ok.mod ma (by simp)⟩, he1.mod ma (by simp), m.trans ma, fun k hk => ?_⟩
  rcases List.mem_cons.1 hk with rfl | hk
  · exact m.size
  · exact hn k hk
/-- What is turned in place is turned behind. -/
theorem QtR.behind {w W w' : World} {bq : Nat} {bl : List Nat} {V : Int} {f : Value} (h : QtR W bq bl V f w') (hn : ∀ k, k ∈ bq :: bl → w.heap.size ≤ k) (m : Mod [] w W) (he : Env2 W) (hlo : 19 ≤ w.heap.size) : ∃ bl', Qy w' bq V f bl' ∧ Env2 w' ∧ Mod [] w w' := by
  obtain ⟨bl', h1, h2, -⟩ := h
  exact ⟨bl', h1, he.mod h2 (fun k hk => Nat.le_trans hlo (hn k hk)), m.step h2 (fun k hk => .inr (hn k hk))⟩
set_option maxHeartbeats 3200000 in
theorem qsign_calls (s : ByteArray) (fn : Nat) (V : Int) (w : World) (he : Env2 w) (h : WordT s fn V) : Calls Tryz.prog 21 #[.string s] w fun e w' => e = .returned (.tuple #[.int .i64 (sgnI V), .bool (decide (V = 0)), .int .i64 0]) ∧ Mod [] w w' := by
  have P := Lib.hid (parse_calls s fn V w he h)
  have HH := Lib.hid he
  clear he h
  go_enter Tryz.func21, Tryz.ntmps21
  go_wp2_with fail
  refine P.out.mono ?_
  rintro e w1 ⟨v, sc, q, st, fb, bl, rfl, hf, ok, hn, hm, m⟩
  have L := Lib.hid (PqRet.fresh (st := st) (fb := fb) ok hn m HH.out)
  clear hf ok hn hm m P
  unfold qv
  go_upto_region 4 with fail
  obtain ⟨⟨hq, -, -⟩, hee, hm, -⟩ := L.out
  unfold qc at hq hee hm
  generalize w1.alloc (.cells #[.int .i64 v, .int .i32 sc, .pointer q, .string st, .string fb] 70) = W at *
  generalize w1.heap.size = bq at *
  have S := Lib.hid (q_sign bq V _ bl W hq)
  have Z := Lib.hid (fun w' (m : Mod [] W w') => q_isZero bq V _ bl w' (hq.mod m (by simp) (by simp)))
  have HM := Lib.hid hm
  clear hq hee hm L
  go_wp2_with fail
  refine S.out.mono ?_
  rintro e w2 ⟨rfl, m2⟩
  have Z' := Lib.hid (Z.out w2 m2)
  have M2 := Lib.hid (HM.out.trans m2)
  clear m2 S Z
  go_wp2_with fail
  refine Z'.out.mono ?_
  rintro e w3 ⟨rfl, rfl⟩
  obtain ⟨z, hz⟩ : ∃ z, decide (V = 0) = z := ⟨_, rfl⟩
  rw [hz]
  have HZ := Lib.hid hz
  clear hz
  go_wp2_with fail
  go_ret3
  exact ⟨by rw [← HZ.out]; rfl, M2.out⟩
set_option maxHeartbeats 3200000 in
theorem qneg_calls (s : ByteArray) (fn : Nat) (V : Int) (w : World) (he : Env2 w) (h : WordT s fn V) (hc : CanOk fn (-V)) : Calls Tryz.prog 27 #[.string s] w fun e w' => ∃ t : List UInt8, e = .returned (.tuple #[.string ⟨t.toArray⟩, .int .i64 0]) ∧ CanTxt fn (-V) t ∧ Mod [] w w' := by
  have P := Lib.hid (parse_calls s fn V w he h)
  have HH := Lib.hid (And.intro he (And.intro h.ok hc))
  clear he h hc
  go_enter Tryz.func27, Tryz.ntmps27
  go_wp2_with fail
  refine P.out.mono ?_
  rintro e w1 ⟨v, sc, q, st, fb, bl, rfl, hf, ok, hn, hm, m⟩
  have L := Lib.hid (PqRet.fresh (st := st) (fb := fb) ok hn m HH.out.1)
  have HF := Lib.hid (And.intro hf hm)
  clear hf ok hn hm m P
  unfold qv
  go_upto_region 4 with fail
  obtain ⟨⟨hq, hd, hqo⟩, hee, hm, hfr⟩ := L.out
  unfold qc at hq hd hee hm hqo
  generalize w1.alloc (.cells #[.int .i64 v, .int .i32 sc, .pointer q, .string st, .string fb] 70) = W at *
  generalize w1.heap.size = bq at *
  have C := Lib.hid (q_neg bq v sc _ _ _ V bl W hd hqo hq.lo HF.out.2)
  have HM := Lib.hid (And.intro hm (And.intro hfr hee))
  clear hq hd hqo hee hm hfr L
  go_wp2_with fail
  refine C.out.mono ?_
  rintro e w2 ⟨rfl, hqt⟩
  have R := Lib.hid (hqt.behind HM.out.2.1 HM.out.1 HM.out.2.2 HH.out.1.env.big)
  obtain ⟨bl', k1, k2, k3⟩ := R.out
  have CC := Lib.hid (canonical_calls fb fn HF.out.1 bq _ bl' w2 k2 k1 (can_may HH.out.2.2))
  have K3 := Lib.hid k3
  clear hqt k1 k2 k3 R C
  go_wp2_with fail
  refine CC.out.mono ?_
  rintro e w3 ⟨t, rfl, ht, m3⟩
  have HT := Lib.hid ht
  have M3 := Lib.hid (K3.out.trans m3)
  clear ht m3 CC
  go_wp2_with fail
  go_ret2
  exact ⟨t, rfl, HT.out, M3.out⟩
set_option maxHeartbeats 3200000 in
theorem qmul_calls (s : ByteArray) (fn : Nat) (V y : Int) (w : World) (he : Env2 w) (h : WordT s fn V) (hy : i64 y) (hc : CanOk fn (V * y)) : Calls Tryz.prog 25 #[.string s, .int .i64 y] w fun e w' => ∃ t : List UInt8, (∃ ok : Bool, e = .returned (.tuple #[.string ⟨t.toArray⟩, .bool ok, .int .i64 0])) ∧ CanTxt fn (V * y) t ∧ Mod [] w w' := by
  have P := Lib.hid (parse_calls s fn V w he h)
  have HH := Lib.hid (And.intro he (And.intro h.ok hc))
  have HY := Lib.hid hy
  clear hy
  clear he h hc
  go_enter Tryz.func25, Tryz.ntmps25
  go_wp2_with fail
  refine P.out.mono ?_
  rintro e w1 ⟨v, sc, q, st, fb, bl, rfl, hf, ok, hn, hm, m⟩
  have L := Lib.hid (PqRet.fresh (st := st) (fb := fb) ok hn m HH.out.1)
  have HF := Lib.hid (And.intro hf hm)
  clear hf ok hn hm m P
  unfold qv
  go_upto_region 4 with fail
  obtain ⟨⟨hq, hd, hqo⟩, hee, hm, hfr⟩ := L.out
  unfold qc at hq hd hee hm hqo
  generalize w1.alloc (.cells #[.int .i64 v, .int .i32 sc, .pointer q, .string st, .string fb] 70) = W at *
  generalize w1.heap.size = bq at *
  have C := Lib.hid (q_mul bq V y _ bl W hee hq HY.out (can_vb HH.out.2.2))
  have HM := Lib.hid (And.intro hm (And.intro hfr hee))
  clear hq hd hqo hee hm hfr L
  go_wp2_with fail
  refine C.out.mono ?_
  rintro e w2 ⟨⟨ok, rfl⟩, hqt⟩
  have R := Lib.hid (hqt.behind HM.out.2.1 HM.out.1 HM.out.2.2 HH.out.1.env.big)
  obtain ⟨bl', k1, k2, k3⟩ := R.out
  have CC := Lib.hid (canonical_calls fb fn HF.out.1 bq _ bl' w2 k2 k1 (can_may HH.out.2.2))
  have K3 := Lib.hid k3
  clear hqt k1 k2 k3 R C
  go_wp2_with fail
  refine CC.out.mono ?_
  rintro e w3 ⟨t, rfl, ht, m3⟩
  have HT := Lib.hid ht
  have M3 := Lib.hid (K3.out.trans m3)
  clear ht m3 CC
  go_wp2_with fail
  go_ret3
  exact ⟨t, ⟨ok, rfl⟩, HT.out, M3.out⟩
set_option maxHeartbeats 3200000 in
theorem qround_calls (s : ByteArray) (fn : Nat) (V c : Int) (w : World) (he : Env2 w) (h : WordT s fn V) (h1 : -9 ≤ c) (h2 : c ≤ 18) (hc : CanOk fn (rup10 V c)) : Calls Tryz.prog 19 #[.string s, .int .i64 c] w fun e w' => ∃ t : List UInt8, e = .returned (.tuple #[.string ⟨t.toArray⟩, .bool (decide (rup10 V c = V)), .int .i64 0]) ∧ CanTxt fn (rup10 V c) t ∧ Mod [] w w' := by
  have P := Lib.hid (parse_calls s fn V w he h)
  have HH := Lib.hid (And.intro he (And.intro h.ok hc))
  have HY := Lib.hid (And.intro h1 h2)
  clear he h hc
  go_enter Tryz.func19, Tryz.ntmps19
  go_wp2_with fail
  refine P.out.mono ?_
  rintro e w1 ⟨v, sc, q, st, fb, bl, rfl, hf, ok, hn, hm, m⟩
  have L := Lib.hid (PqRet.fresh (st := st) (fb := fb) ok hn m HH.out.1)
  have HF := Lib.hid (And.intro hf hm)
  clear hf ok hn hm m P
  unfold qv
  go_upto_region 4 with fail
  obtain ⟨⟨hq, hd, hqo⟩, hee, hm, hfr⟩ := L.out
  unfold qc at hq hd hee hm hqo
  generalize w1.alloc (.cells #[.int .i64 v, .int .i32 sc, .pointer q, .string st, .string fb] 70) = W at *
  generalize w1.heap.size = bq at *
  have C := Lib.hid (q_roundUp bq V c _ bl W hee hq (can_vb HH.out.2.1) HY.out.1 HY.out.2)
  have HM := Lib.hid (And.intro hm (And.intro hfr hee))
  clear hq hd hqo hee hm hfr L
  go_wp2_with fail
  refine C.out.mono ?_
  rintro e w2 ⟨rfl, hqt⟩
  have R := Lib.hid (hqt.behind HM.out.2.1 HM.out.1 HM.out.2.2 HH.out.1.env.big)
  obtain ⟨bl', k1, k2, k3⟩ := R.out
  have CC := Lib.hid (canonical_calls fb fn HF.out.1 bq _ bl' w2 k2 k1 (can_may HH.out.2.2))
  have K3 := Lib.hid k3
  clear hqt k1 k2 k3 R C
  go_wp2_with fail
  refine CC.out.mono ?_
  rintro e w3 ⟨t, rfl, ht, m3⟩
  have HT := Lib.hid ht
  have M3 := Lib.hid (K3.out.trans m3)
  clear ht m3 CC
  go_wp2_with fail
  go_ret3
  exact ⟨t, rfl, HT.out, M3.out⟩
end Go.Proofs.YtcpjclakdpjjfaaGreatDoor
namespace Go.Proofs.YtcpjclakdpjjfaaGreatDoor
open Go.RowKit Wd Dg
set_option maxRecDepth 20000 in
set_option maxHeartbeats 12800000 in
theorem rounds_calls (sign : Int) (num : ByteArray) (dot : Bool) (den : ByteArray) (kind place : Int) (up : Bool) (ps : Int) (pow : ByteArray) (sc : Int) (w : World) (he : Env2 w) :
    Calls Tryz.prog 5 #[qwv sign num dot den kind place up ps pow, .int .i64 sc] w fun e w' => e = .returned (.bool true) ∧ Mod [] w w' := by
  have hd := Hd.new w 23 #[.int .i64 sign, .string num, .bool dot, .string den, .int .i64 kind, .int .i64 place, .bool up, .int .i64 ps, .string pow]
  have hm := (Mod.refl [] w).alloc (.cells #[.int .i64 sign, .string num, .bool dot, .string den, .int .i64 kind, .int .i64 place, .bool up, .int .i64 ps, .string pow] 23)
  have F := Lib.hid (fun w' => fits_calls sign num dot den kind place up ps pow w')
  have Q := Lib.hid (fun w' h1 h2 h3 => quantityOf_calls sign num dot den kind place up ps pow w' h1 h2 h3)
  have HE := Lib.hid he
  unfold qwv at *
  go_enter Tryz.func5, Tryz.ntmps5
  go_upto_region 1 with fail
  generalize w.alloc (.cells #[.int .i64 sign, .string num, .bool dot, .string den, .int .i64 kind, .int .i64 place, .bool up, .int .i64 ps, .string pow] 23) = W at *
  have HD := Lib.hid (And.intro hd hm)
  have HP := Lib.hid (fun (w' : World) (m : Mod [] W w') => Hd.mod hd m (by simp))
  have e0 := hd.cell (i := 0) rfl
  have e1 := hd.cell (i := 1) rfl
  have e2 := hd.cell (i := 2) rfl
  have e3 := hd.cell (i := 3) rfl
  have e4 := hd.cell (i := 4) rfl
  have e5 := hd.cell (i := 5) rfl
  have e6 := hd.cell (i := 6) rfl
  have e7 := hd.cell (i := 7) rfl
  have e8 := hd.cell (i := 8) rfl
  clear hd hm he
  go_wp2_with fail
  refine (F.out _).mono ?_
  rintro e w1 ⟨⟨b, rfl, hb⟩, m1⟩
  have M1 := Lib.hid m1
  have HB := Lib.hid hb
  clear m1 hb F e0 e1 e2 e3 e4 e5 e6 e7 e8
  cases b
  · go_wp2_with fail
    go_ret
    exact ⟨rfl, HD.out.2.trans M1.out⟩
  have hd1 := HP.out w1 M1.out
  have e0 := hd1.cell (i := 0) rfl
  have e1 := hd1.cell (i := 1) rfl
  have e2 := hd1.cell (i := 2) rfl
  have e3 := hd1.cell (i := 3) rfl
  have e4 := hd1.cell (i := 4) rfl
  have e5 := hd1.cell (i := 5) rfl
  have e6 := hd1.cell (i := 6) rfl
  have e7 := hd1.cell (i := 7) rfl
  have e8 := hd1.cell (i := 8) rfl
  have Q' := Lib.hid (by have h := HB.out; simp only [forall_const] at h; exact Q.out w1 h.1 h.2.1 h.2.2)
  clear hd1 Q HB
  go_wp2_with fail
  refine Q'.out.mono ?_
  rintro e w2 ⟨tx, d, c, ok, V, rfl, hdc, hok, m2⟩
  have M2 := Lib.hid (M1.out.trans m2)
  have HOK := Lib.hid hok
  have HDC := Lib.hid hdc
  obtain ⟨neg, sl, l, ex, rfl, hir, -⟩ := hdc
  obtain ⟨sa, sc', rfl, -, -⟩ := hir.form
  clear m2 hok hir Q' e0 e1 e2 e3 e4 e5 e6 e7 e8
  unfold dcv
  cases ok
  · go_wp2_with fail
    go_ret
    exact ⟨rfl, (HD.out.2.trans M2.out).alloc _⟩
  have hh := HOK.out (by first | rfl | trivial)
  obtain ⟨fn, rfl⟩ : ∃ fn : Nat, kind = fn := ⟨kind.toNat, by rcases hh.1.k with ⟨h, -⟩ | ⟨h, -⟩ | ⟨h, -⟩ <;> omega⟩
  rw [Int.toNat_natCast] at hh
  have hfn3 : fn = 0 ∨ fn = 1 ∨ fn = 2 := by rcases hh.1.k with ⟨h, -⟩ | ⟨h, -⟩ | ⟨h, -⟩ <;> omega
  have HWT := Lib.hid (And.intro hh.2.2.1 hfn3)
  clear hh HOK hfn3
  by_cases h1 : sc < -9
  · have t1 : decide (sc < -9) = true := decide_eq_true h1
    go_wp2_with fail
    go_ret
    exact ⟨rfl, (HD.out.2.trans M2.out).alloc _⟩
  have t1 : decide (sc < -9) = false := decide_eq_false h1
  by_cases h2 : 18 < sc
  · have t2 : decide (18 < sc) = true := decide_eq_true h2
    go_wp2_with fail
    go_ret
    exact ⟨rfl, (HD.out.2.trans M2.out).alloc _⟩
  have t2 : decide (18 < sc) = false := decide_eq_false h2
  go_upto_region 4 with fail
  have hdd := Hd.new w2 27 #[.bool neg, .slice sa l.length sc', .int .i64 ex]
  have m3 : Mod [] w2 (w2.alloc (.cells #[.bool neg, .slice sa l.length sc', .int .i64 ex] 27)) := (Mod.refl [] w2).alloc _
  generalize w2.alloc (.cells #[.bool neg, .slice sa l.length sc', .int .i64 ex] 27) = W3 at *
  generalize w2.heap.size = bd at *
  have M3 := Lib.hid (M2.out.trans m3)
  have DC := Lib.hid (HDC.out.mod m3)
  have HPd := Lib.hid (fun (w' : World) (m : Mod [] W3 w') => Hd.mod hdd m (by simp))
  have r0 := hdd.cell (i := 0) rfl
  have r1 := hdd.cell (i := 1) rfl
  have r2 := hdd.cell (i := 2) rfl
  have SS := Lib.hid (spec_sign _ V (-170) 240 W3 DC.out)
  unfold dcv at SS
  clear hdd m3 HDC
  go_wp2_with fail
  refine SS.out.mono ?_
  rintro e w4 ⟨rfl, m4⟩
  have M4 := Lib.hid m4
  clear m4 SS r0 r1 r2
  obtain ⟨r, hr⟩ : ∃ r, sgV V = r := ⟨_, rfl⟩
  rw [hr]
  have d1 := HPd.out w4 M4.out
  have r0 := d1.cell (i := 0) rfl
  have r1 := d1.cell (i := 1) rfl
  have r2 := d1.cell (i := 2) rfl
  by_cases hV0 : V = 0
  · have t3 : (r == 0) = true := by rw [← hr, hV0]; rfl
    clear hr hV0
    go_wp2_with fail
    go_ret
    exact ⟨rfl, HD.out.2.trans (M3.out.trans M4.out)⟩
  have t3 : (r == 0) = false := by
    rw [beq_eq_false_iff_ne, ← hr]
    unfold sgV
    split <;> first | decide | (rename_i h; exact absurd h hV0)
  clear hr hV0 d1
  have D4 := Lib.hid ((DC.out.mod M4.out).mono (lo' := -170) (hi' := 260) (by decide) (by decide) (by decide) (by decide))
  have SU := Lib.hid (spec_up _ V sc w4 D4.out (by omega) (by omega))
  unfold dcv at SU
  go_wp2_with fail
  refine SU.out.mono ?_
  rintro e w5 ⟨d2, b2, rfl, hd2, hb2, m5⟩
  have HD2 := Lib.hid hd2
  have HB2 := Lib.hid hb2
  have M5 := Lib.hid ((M3.out.trans M4.out).trans m5)
  obtain ⟨neg2, sl2, l2, ex2, rfl, hir2, -⟩ := hd2
  obtain ⟨sa2, sc2, rfl, -, -⟩ := hir2.form
  clear hb2 m5 hir2 SU D4 r0 r1 r2 DC M3 M4 HPd
  unfold dcv
  go_upto_region 7 with fail
  have hde := Hd.new w5 27 #[.bool neg2, .slice sa2 l2.length sc2, .int .i64 ex2]
  have m6 : Mod [] w5 (w5.alloc (.cells #[.bool neg2, .slice sa2 l2.length sc2, .int .i64 ex2] 27)) := (Mod.refl [] w5).alloc _
  generalize w5.alloc (.cells #[.bool neg2, .slice sa2 l2.length sc2, .int .i64 ex2] 27) = W6 at *
  generalize w5.heap.size = be at *
  have M6 := Lib.hid (M5.out.trans m6)
  have r0 := hde.cell (i := 0) rfl
  have r1 := hde.cell (i := 1) rfl
  have r2 := hde.cell (i := 2) rfl
  have e4 := (HP.out W6 M6.out).cell (i := 4) rfl
  have SC := Lib.hid (spec_canonical fn HWT.out.2 _ (rup10 V sc) (-170) 300 W6 (HD2.out.mod m6) (by decide) (by decide))
  unfold dcv at SC
  clear hde m6 M5
  go_wp2_with fail
  refine SC.out.mono ?_
  rintro e w7 ⟨t, bc, rfl, hbc, hct, m7⟩
  have M7 := Lib.hid (M6.out.trans m7)
  have HBC := Lib.hid (And.intro hbc hct)
  clear hbc hct m7 SC r0 r1 r2 e4
  cases bc
  · go_wp2_with fail
    go_ret
    exact ⟨rfl, HD.out.2.trans M7.out⟩
  have QR := Lib.hid (qround_calls tx fn V sc w7 (HE.out.mod (HD.out.2.trans M7.out) (by simp)) HWT.out.1 (by omega) (by omega) (HBC.out.1.1 (by first | rfl | trivial)))
  go_wp2_with fail
  refine QR.out.mono ?_
  rintro e w8 ⟨t', rfl, ht', m8⟩
  obtain rfl := ht'.unique (HBC.out.2 (by first | rfl | trivial))
  have M8 := Lib.hid (M7.out.trans m8)
  have hb2 : b2 = decide (rup10 V sc = V) := by
    have := HB2.out
    by_cases h : rup10 V sc = V
    · rw [decide_eq_true h]; exact this.2 h
    · rw [decide_eq_false h]
      cases b2
      · rfl
      · exact (h (this.1 rfl)).elim
  rw [← hb2]
  have AW := Lib.hid (awake_calls w8 (HE.out.mod (HD.out.2.trans M8.out) (by simp)))
  clear ht' m8 QR hb2
  go_wp2_with fail
  refine AW.out.mono ?_
  rintro e w9 ⟨rfl, m9⟩
  have M9 := Lib.hid (M8.out.trans m9)
  clear m9 AW
  go_wp2_with fail
  go_ret
  exact ⟨rfl, HD.out.2.trans M9.out⟩
end Go.Proofs.YtcpjclakdpjjfaaGreatDoor
