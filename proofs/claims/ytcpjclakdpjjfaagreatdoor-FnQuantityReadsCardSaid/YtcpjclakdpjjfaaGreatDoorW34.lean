/- Whole numbers read (bigall/natconv.go: scan, base 10). -/
import Derived.Test.YtcpjclakdpjjfaaGreatDoorW23
namespace Go.Proofs.YtcpjclakdpjjfaaGreatDoor
open Go.RowKit Wd Dg
theorem wrap64_eq {x y : Int} (h : x = y) (h1 : 0 ≤ y) (h2 : y ≤ 9223372036854775807) : wrap64 x = y := by unfold wrap64; omega
theorem results_tmp4 {fn : Func} {t u v x : Tmp} (h : fn.results = #[.tmp t, .tmp u, .tmp v, .tmp x]) (tmps : Array Value) (P : Program) (w : World) :
    (results fn tmps).run P w = .ok (.tuple #[tmps.getD t undef, tmps.getD u undef, tmps.getD v undef, tmps.getD x undef]) w := by
  simp [results, h]
theorem SR.next {w : World} {b i0 i : Nat} {s : ByteArray} {be : Addr} {j wv X : Nat} {z err : Value} {ch : Int} {wr : World} (h : SR w b i0 i s be j wv X z err ch wr) (hi : i < s.size) {w2 : World} {p q : Int} {err2 : Value} {ch2 : Int}
    (hrd : Rd wr b s p q) (m : Mod [b] wr w2) (hst : RdSt b s be (i + 1) err2 ch2 w2) {d : Nat} (hd : d = (s[i]'hi).toNat - 48) (hd9 : d ≤ 9) (hj : j + 1 < 19) : SR w b i0 (i + 1) s be (j + 1) (wv * 10 + d) X z err2 ch2 w2 :=
  { mod := h.mod.trans m, nv := h.nv.mod m (fun k hk hb => by rw [List.mem_singleton.1 hb] at hk; exact hrd.not_sb h.nv.zs (by decide) hk), own := h.own, val := h.digit hi hd
    wlt := by have := h.wlt; rw [Nat.pow_succ]; omega
    jlt := hj, ge := by have := h.ge; omega, le := by omega, st := hst }
theorem SR.flush {w : World} {b i0 i : Nat} {s : ByteArray} {be : Addr} {j wv X : Nat} {z err : Value} {ch : Int} {wr : World} (h : SR w b i0 i s be j wv X z err ch wr) (hi : i < s.size) {w1 w2 : World} {err2 : Value} {ch2 : Int} {v : Value} {d : Nat}
    (r : NRes wr z (X * 10000000000000000000 + (wv * 10 + d)) v w1) {p q : Int} (hrd : Rd w1 b s p q) (m : Mod [b] w1 w2) (hst : RdSt b s be (i + 1) err2 ch2 w2) (hd : d = (s[i]'hi).toNat - 48) (hj : j = 18) : SR w b i0 (i + 1) s be 0 0 (X * 10000000000000000000 + (wv * 10 + d)) v err2 ch2 w2 :=
  { mod := (h.mod.step r.mod (fun k hk => .inr (h.own k hk))).trans m, nv := r.nv.mod m (fun k hk hb => by rw [List.mem_singleton.1 hb] at hk; exact hrd.not_sb r.nv.zs (by decide) hk)
    own := fun k hk => (r.own k hk).elim (h.own k) (fun h2 => Nat.le_trans h.mod.size h2)
    val := by
      have := h.digit hi hd
      rw [this, hj, show (10 : Nat) ^ (18 + 1) = 10000000000000000000 by decide +kernel, Nat.pow_zero, Nat.mul_one]; exact (Nat.add_zero _).symm
    wlt := by decide, jlt := by decide, ge := by have := h.ge; omega, le := by omega, st := hst }
theorem SR.small {w : World} {b i0 i : Nat} {s : ByteArray} {be : Addr} {j wv X : Nat} {z err : Value} {ch : Int} {wr : World} (h : SR w b i0 i s be j wv X z err ch wr) (hB : BD (tl s i0)) (hc : s.size ≤ 300) : X < Big := by
  have h1 := bv_lt (l := (tl s i0).take (i - i0)) (fun c hc => hB c (List.mem_of_mem_take hc))
  have h2 : ((tl s i0).take (i - i0)).length ≤ 300 := by
    rw [List.length_take]
    have : (tl s i0).length = s.size - i0 := by unfold tl; rw [List.length_drop]; rfl
    omega
  have h3 : X ≤ X * 10 ^ j := Nat.le_mul_of_pos_right _ (Nat.pow_pos (by decide))
  have h4 := h.val
  have h5 := Nat.pow_le_pow_right (show 0 < 10 by decide) h2
  have h6 := Nat.lt_trans (pow10_lt 300 39 (by decide)) B39_Big
  omega
def ScRet (w : World) (b i0 : Nat) (s : ByteArray) (e : Ending) (w' : World) : Prop :=
  ∃ v, e = .returned (.tuple #[v, .int .i64 10, .int .i64 ((s.size - i0 : Nat) : Int), .nilIface]) ∧ Nv w' v (bv (tl s i0)) ∧ Mod [b] w w' ∧ (∀ q, q ∈ sb v → w.heap.size ≤ q) ∧ Rd w' b s (s.size : Int) (-1)
set_option maxRecDepth 20000 in
set_option maxHeartbeats 4000000 in
theorem scan_calls (b i0 : Nat) (be : Addr) (p : Int) (s : ByteArray) (w : World) (h : Rd w b s i0 p) (he : w.cell? ⟨3, 0, none⟩ = some (eofV be)) (hb : 19 ≤ b) (hi : i0 < s.size) (hc : s.size ≤ 300) (hB : BD (tl s i0)) :
    Calls Tryz.prog 228 #[.slice none 0 0, .iface 171 (.pointer (some ⟨b, 0, none⟩)), .int .i64 10, .bool false] w (ScRet w b i0 s) := by
  have m1 := meth_readByte b
  have m2 := eof_nil be
  have m3 := eof_eql be
  have R1 := Lib.hid (readByte_ok b i0 p s w h hi (by omega))
  have H0 := Lib.hid (And.intro h (And.intro he (And.intro hb (And.intro hi (And.intro hc hB)))))
  clear h he hb hc hB
  go_enter Tryz.func228, Tryz.ntmps228
  go_wp2_with fail
  refine R1.out.mono ?_
  rintro e w1 ⟨rfl, h1, hm1⟩
  have hSR : SR w b i0 i0 s be 0 0 0 (.slice none 0 0) .nilIface (((s[i0]'hi).toNat : Nat) : Int) w1 :=
    { mod := hm1, nv := .inl ⟨rfl, rfl⟩, own := by simp [sb], val := by simp; rfl, wlt := by decide, jlt := by decide, ge := Nat.le_refl _, le := by omega, st := .inl ⟨hi, rfl, rfl, h1⟩ }
  have HS := Lib.hid hSR
  clear hSR h1 hm1 R1
  go_wp2_with fail
  refine (maxPow_calls _).mono ?_
  rintro e w2 ⟨rfl, rfl⟩
  go_wp2_with fail
  go_loopw [0, 3, 10, 11, 13, 14, 15, 20, 21, 22] (fun t0 t3 t10 t11 t13 t14 t15 t20 t21 t22 wr => ∃ (i j wv X m : Nat) (z err : Value) (ch pv : Int), z = t0 ∧ t10 = .int .i64 (m : Int) ∧ m = i - i0 ∧ err = t11 ∧ t13 = .int .i32 pv ∧ (pv = 46 ∨ pv = 48) ∧ t15 = .int .u8 ch ∧ t20 = .int .u64 wv ∧ t21 = .int .i64 j ∧ t3 = .bool false ∧ t14 = .bool false ∧ t22 = .int .i64 (-1) ∧ SR w b i0 i s be j wv X z err ch wr) (fun _ _ t10 _ _ _ _ _ _ _ _ => 1000 - (intOf t10).toNat)
  case atStart => exact ⟨i0, 0, 0, 0, 0, _, _, _, 46, rfl, rfl, by rw [Nat.sub_self], rfl, rfl, .inl rfl, rfl, rfl, rfl, rfl, rfl, rfl, HS.out⟩
  case round =>
    obtain ⟨i, j, wv, X, m, z, err, ch, pv, rfl, rfl, hmi, rfl, rfl, hpv, rfl, rfl, rfl, rfl, rfl, rfl, hSR⟩ := hrel
    have hpv95 : (pv == 95) = false := by rcases hpv with rfl | rfl <;> decide
    have hge := hSR.ge
    have hle := hSR.le
    have hj := hSR.jlt
    rcases hSR.st with ⟨hlt, rfl, rfl, hrd⟩ | ⟨hlt, rfl, hrd⟩
    · have hbd := tl_bd H0.out.2.2.2.2.2 hSR.ge hlt
      have hdig := fun d hd => hSR.digit hlt (d := d) hd
      generalize hcc : (s[i]'hlt).toNat = c at *
      obtain ⟨d, hd⟩ : ∃ d, d = c - 48 := ⟨_, rfl⟩
      clear hdig
      have he3 : wr.cell? ⟨3, 0, none⟩ = some (eofV be) := (hSR.mod.cell (p := ⟨3, 0, none⟩) (World.block_lt_of_cell? w _ H0.out.2.1) (by have := H0.out.2.2.1; simp; omega)).trans H0.out.2.1
      have t1 : ((c : Int) == 46) = false := by simp; omega
      have t2 : ((c : Int) == 95) = false := by simp; omega
      have t3 : decide ((48 : Int) ≤ (c : Int)) = true := by simp; omega
      have t4 : decide ((c : Int) ≤ 57) = true := by simp; omega
      have t5 : IntKind.u8.wrap ((c : Int) - 48) = (d : Int) := by rw [IntKind.wrap_u8]; omega
      have t6 : decide ((10 : Int) ≤ (d : Int)) = false := by simp; omega
      have hw := hSR.wlt
      have hwB : wv < 10 ^ 18 := Nat.lt_of_lt_of_le hw (Nat.pow_le_pow_right (by decide) (by omega))
      have hwB' : wv < 1000000000000000000 := hwB
      have t7 : IntKind.u64.wrap ((wv : Int) * 10) = ((wv * 10 : Nat) : Int) := u64_nat (n := wv * 10) (by rw [B_eq]; omega)
      have t8 : IntKind.u64.wrap (((wv * 10 : Nat) : Int) + (d : Int)) = ((wv * 10 + d : Nat) : Int) := u64_nat (n := wv * 10 + d) (by rw [B_eq]; omega)
      obtain ⟨w10, hw10⟩ : ∃ w10, w10 = wv * 10 := ⟨_, rfl⟩
      obtain ⟨wn, hwn⟩ : ∃ wn, wn = wv * 10 + d := ⟨_, rfl⟩
      rw [← hw10] at t7
      rw [← hwn, ← hw10] at t8
      have hs300 := H0.out.2.2.2.2.1
      obtain ⟨m1, hm1⟩ : ∃ m1, m1 = m + 1 := ⟨_, rfl⟩
      have T9 := Lib.hid <| show wrap64 ((m : Int) + 1) = (m1 : Int) from wrap64_eq (by omega) (by omega) (by omega)
      have HMI := Lib.hid (And.intro (show m1 = i + 1 - i0 by omega) (And.intro hm1 (show m < 300 by omega)))
      clear hm1 hmi
      have hd9 : d ≤ 9 := by omega
      have hXB := hSR.small H0.out.2.2.2.2.2 H0.out.2.2.2.2.1
      have hm0 : i + 1 - i0 ≤ 300 := by have := H0.out.2.2.2.2.1; omega
      have hb0 := H0.out.2.2.1
      have hs0 := H0.out.2.2.2.2.1
      by_cases hj18 : j = 18
      · subst hj18
        have MA := Lib.hid (mulAddWW_calls z z X 10000000000000000000 wn wr hSR.nv.zs hSR.nv hXB (by rw [B_eq]; decide) (by rw [B_eq]; omega))
        have HR := Lib.hid (And.intro hSR (And.intro hrd (And.intro hd (And.intro he3 (And.intro hw10 hwn)))))
        clear hSR hrd hd he3 hbd hwB hwB' hw hXB hpv95 hpv hj hw10 hwn
        go_wp2_with fail
        refine MA.out.mono ?_
        rintro e w3 ⟨v, rfl, hr⟩
        have hb1 := HR.out.2.1.mod hr.mod (HR.out.2.1.not_sb HR.out.1.nv.zs (by decide))
        have he3 : w3.cell? ⟨3, 0, none⟩ = some (eofV be) := (hr.mod.cell (p := ⟨3, 0, none⟩) (World.block_lt_of_cell? wr _ HR.out.2.2.2.1) (fun h3 => by
          have h4 := HR.out.1.own _ h3
          have h5 := World.block_lt_of_cell? w _ H0.out.2.1
          exact absurd h4 (Nat.not_le.2 h5))).trans HR.out.2.2.2.1
        have RB := Lib.hid (readByte_any b (i + 1) be (-1) s w3 hb1 he3 hb0 (by omega))
        have t9 := T9.out
        have HV := Lib.hid (And.intro hr hb1)
        clear hr hb1 he3 MA
        go_wp2_with fail
        refine RB.out.mono ?_
        rintro e w4 ⟨ch2, err2, rfl, hst, hm⟩
        have HT := Lib.hid (And.intro hst hm)
        clear hst hm RB
        go_wp2_with fail
        go_roundw
        case rel =>
          obtain ⟨k1, k2, k3, k4, k5, k6⟩ := HR.out
          have hr := HV.out.1
          rw [k6] at hr
          exact ⟨i + 1, 0, 0, _, m1, v, err2, ch2, 48, rfl, by first | rfl | rw [t9], HMI.out.1, rfl, rfl, .inr rfl, rfl, rfl, rfl, rfl, rfl, rfl, k1.flush hlt hr HV.out.2 HT.out.2 HT.out.1 (by rw [k3, hcc]) rfl⟩
        case measure =>
          obtain ⟨-, q1, q2⟩ := HMI.out
          try rw [t9]
          clear t9
          try clear t11
          subst q1
          simp [intOf]; omega
      · obtain ⟨j1, hj1⟩ : ∃ j1, j1 = j + 1 := ⟨_, rfl⟩
        have t10 : ((j1 : Int) == 19) = false := by simp; omega
        have T11 := Lib.hid <| show wrap64 ((j : Int) + 1) = (j1 : Int) from wrap64_eq (by omega) (by omega) (by omega)
        have RB := Lib.hid (readByte_any b (i + 1) be (-1) s wr hrd he3 hb0 (by omega))
        have HR := Lib.hid (And.intro hSR (And.intro hrd (And.intro hd (And.intro hw10 (And.intro hwn (And.intro hj18 (And.intro hd9 hj1)))))))
        have HJ := Lib.hid (And.intro hj hm0)
        clear hSR hrd hd he3 hbd hwB hwB' hw hXB hpv95 hpv hj18 hw10 hwn hj1 hb0 hs0 hj hm0 hge hle hs300
        have t9 := T9.out
        have t11 := T11.out
        go_wp2_with fail
        refine RB.out.mono ?_
        rintro e w4 ⟨ch2, err2, rfl, hst, hm⟩
        have HT := Lib.hid (And.intro hst hm)
        clear hst hm RB
        go_wp2_with fail
        go_roundw
        case rel =>
          obtain ⟨k1, k2, k3, k5, k6, k7, k8, k9⟩ := HR.out
          have h9 := k1.next hlt k2 HT.out.2 HT.out.1 (by rw [k3, hcc]) k8 (by have := HJ.out.1; omega)
          rw [← k6, ← k9] at h9
          exact ⟨i + 1, j1, wn, X, m1, z, err2, ch2, 48, rfl, by first | rfl | rw [t9], HMI.out.1, rfl, rfl, .inr rfl, rfl, rfl, by first | rfl | rw [t11], rfl, rfl, rfl, h9⟩
        case measure =>
          obtain ⟨-, q1, q2⟩ := HMI.out
          try rw [t9]
          clear t9
          try clear t11
          subst q1
          simp [intOf]; omega
    · have he3 : wr.cell? ⟨3, 0, none⟩ = some (eofV be) := (hSR.mod.cell (p := ⟨3, 0, none⟩) (World.block_lt_of_cell? w _ H0.out.2.1) (by have := H0.out.2.2.1; simp; omega)).trans H0.out.2.1
      obtain rfl : i = s.size := by omega
      have hi0 := H0.out.2.2.2.1
      have hXB := hSR.small H0.out.2.2.2.2.2 H0.out.2.2.2.2.1
      have hval := hSR.val
      rw [List.take_of_length_le (by unfold tl; rw [List.length_drop]; exact Nat.le_refl _)] at hval
      have hw := hSR.wlt
      have hm := hmi
      clear hmi
      have tc : ((m : Int) == 0) = false := by simp; omega
      rcases Nat.eq_zero_or_pos j with rfl | hj0
      · have HR := Lib.hid (And.intro hSR (And.intro hrd (And.intro hval (And.intro hw hm))))
        clear hSR hrd hval hw hm hge hle hj hi0 hXB hlt hpv
        unfold eofV at m2 m3 he3 ⊢
        go_wp2_with fail
        refine bodyPost_ret (results_tmp4 rfl _ _ _) rfl ?_
        obtain ⟨k1, k2, k3, k4, k5⟩ := HR.out
        refine ⟨z, by subst k5; rfl, ?_, k1.mod, k1.own, k2⟩
        rw [k3, Nat.pow_zero, Nat.mul_one, show wv = 0 by simpa using k4]; exact k1.nv
      · obtain ⟨T, hT⟩ : ∃ T, T = 10 ^ j := ⟨_, rfl⟩
        have tj : decide ((0 : Int) < (j : Int)) = true := by simp; omega
        have tj2 : decide (0 < j) = true := by simp; omega
        have hTB : T < B := by
          have h5 := Nat.pow_le_pow_right (show 0 < 10 by decide) (show j ≤ 18 by omega)
          rw [hT, B_eq]; exact Nat.lt_of_le_of_lt h5 (by decide)
        rw [← hT] at hval hw
        have PW : ∀ w, Calls Tryz.prog 251 #[.int .u64 10, .int .i64 j] w fun e w' => e = .returned (.int .u64 (T : Int)) ∧ w = w' := fun w => by rw [hT]; exact pow_calls j w (by omega)
        have MA := Lib.hid (And.intro PW (mulAddWW_calls z z X T wv wr hSR.nv.zs hSR.nv hXB hTB (Nat.lt_trans hw hTB)))
        have HR := Lib.hid (And.intro hSR (And.intro hrd (And.intro hval hm)))
        clear hSR hrd hval hw hm hge hle hj hi0 hXB hlt hpv hT hTB PW hj0
        unfold eofV at m2 m3 he3 ⊢
        go_wp2_with fail
        refine (MA.out.1 _).mono ?_
        rintro e w2 ⟨rfl, rfl⟩
        go_wp2_with fail
        refine MA.out.2.mono ?_
        rintro e w3 ⟨v, rfl, hr⟩
        have HV := Lib.hid hr
        clear hr MA
        go_wp2_with fail
        refine bodyPost_ret (results_tmp4 rfl _ _ _) rfl ?_
        obtain ⟨k1, k2, k3, k4⟩ := HR.out
        have hr := HV.out
        refine ⟨v, by subst k4; rfl, ?_, k1.mod.step hr.mod (fun k hk => .inr (k1.own k hk)), fun k hk => (hr.own k hk).elim (k1.own k) (fun h2 => Nat.le_trans k1.mod.size h2), k2.mod hr.mod (k2.not_sb k1.nv.zs (by decide))⟩
        rw [k3]; exact hr.nv
end Go.Proofs.YtcpjclakdpjjfaaGreatDoor
