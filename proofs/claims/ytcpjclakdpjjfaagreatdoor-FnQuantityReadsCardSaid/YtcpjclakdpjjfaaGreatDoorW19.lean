/- Whole numbers (bigall/int.go): intOne, DivMod. math.Log2 of 10. Whole numbers written (bigall/nat.go, natconv.go: bitLen, divisors, convertWords, itoa). -/
import Derived.Test.YtcpjclakdpjjfaaGreatDoorW18
import Derived.Test.YtcpjclakdpjjfaaGreatDoorW13
import Derived.Test.YtcpjclakdpjjfaaGreatDoorW12
namespace Go.Proofs.YtcpjclakdpjjfaaGreatDoor
open Go.RowKit Wd
theorem alias_apart {w : World} {x y : Value} (hx : Zs w x) (hy : Zs w y) (h : ∀ j, j ∈ sb x → j ∉ sb y) : aliasB x y = false := by
  rcases hx with rfl | ⟨b, l, ws, rfl, _, _⟩
  · obtain ⟨_, _, _, rfl, _⟩ := hy.slice; rfl
  · rcases hy with rfl | ⟨b', l', ws', rfl, _, _⟩
    · rfl
    · have : b ≠ b' := fun e => h b (by simp [sb]) (by simp [sb, e])
      simp [aliasB, this]
set_option maxHeartbeats 400000 in
theorem natOne_calls (w : World) : Calls Tryz.prog 215 #[] w fun e w' => e = .returned (.slice (some ⟨w.heap.size, 0, none⟩) 1 1) ∧ w' = w.alloc (.cells #[.int .u64 1] 177) := by
  go_enter Tryz.func215, Tryz.ntmps215
  go_wp2_with fail
  go_ret
  exact ⟨rfl, rfl⟩
set_option maxHeartbeats 400000 in
theorem intOne_calls (w : World) (hw : 19 ≤ w.heap.size) : Calls Tryz.prog 196 #[] w (NewRet w none 1) := by
  have F := Lib.hid (new_one w hw (x := 1) (by decide) (by rw [B_eq]; decide))
  go_enter Tryz.func196, Tryz.ntmps196
  go_wp2_with fail
  refine (natOne_calls w).mono ?_
  rintro e w1 ⟨rfl, rfl⟩
  go_wp2_with fail
  go_ret
  exact ⟨_, _, rfl, F.out⟩
theorem euclid_neg {a b : Int} (hb : 0 < b) (h : a.tmod b < 0) : a / b = a.tdiv b - 1 ∧ a % b = a.tmod b + b := by
  have e := Int.mul_tdiv_add_tmod a b
  have hl : -b < a.tmod b := Int.lt_tmod_of_pos a hb
  refine (Int.ediv_emod_unique hb).2 ⟨?_, by omega, by omega⟩
  rw [Int.mul_sub]; omega
theorem euclid_pos {a b : Int} (hb : 0 < b) (h : 0 ≤ a.tmod b) : a / b = a.tdiv b ∧ a % b = a.tmod b := by
  have e := Int.mul_tdiv_add_tmod a b
  have hl : a.tmod b < b := Int.tmod_lt_of_pos a hb
  exact (Int.ediv_emod_unique hb).2 ⟨by omega, h, hl⟩
set_option maxRecDepth 10000 in
set_option maxHeartbeats 4000000 in
theorem int_divMod (bz bx bY br : Nat) (sz sx sy sr : Option Int) (nz nx ny nr : Int) (vz vx vy vr : Value) (w : World) (he : Env w) (hz : IA w bz sz nz vz) (hx : IA w bx sx nx vx) (hy : IA w bY sy ny vy) (hr : IA w br sr nr vr)
    (h1 : bz ≠ bx) (h2 : bz ≠ bY) (h3 : bz ≠ br) (h4 : bx ≠ br) (h5 : bY ≠ br) (hd : ∀ k, k ∈ sb vz → k ∉ sb vr) (hdx : ∀ k, k ∈ sb vx → k ∉ sb vr) (hyz : ∀ k, k ∈ sb vy → k ∉ sb vz) (hyr : ∀ k, k ∈ sb vy → k ∉ sb vr) (hXb : nx.natAbs < Big) (hYb : ny.natAbs < B ^ 39) (hy0 : 0 < ny) :
    Calls Tryz.prog 161 #[.pointer (some ⟨bz, 0, none⟩), .pointer (some ⟨bx, 0, none⟩), .pointer (some ⟨bY, 0, none⟩), .pointer (some ⟨br, 0, none⟩)] w (QRIRet w bz br vz vr sz sr (nx / ny) (nx % ny)) := by
  have hp : ∀ k, (binOp .eql 128 (.pointer (some ⟨bz, 0, none⟩)) (.pointer (some ⟨bY, 0, none⟩))).run Tryz.prog (w.drewN k) = .ok (.bool false) (w.drewN k) := fun k => by
    have := iptr_eql (hz.drewN k) (hy.drewN k)
    rw [show decide (bz = bY) = false by simp [h2]] at this
    exact this
  have hp0 := hp 0
  have z1 := hz.abs
  have y1 := hy.abs
  have hal : ∀ k, Calls Tryz.prog 148 #[vz, vy] (w.drewN k) fun e w' => e = .returned (.bool false) ∧ ∃ m, w' = (w.drewN k).drewN m := fun k => by
    have := alias_calls vz vy (w.drewN k) (hz.nv.zs.drewN k) (hy.nv.zs.drewN k)
    rw [alias_apart hz.nv.zs hy.nv.zs (fun j hj hk => hyz j hk hj)] at this
    exact this
  have HAL := Lib.hid hal
  have HQ := Lib.hid (fun k => int_quoRem bz bx bY br sz sx sy sr nz nx ny nr vz vx vy vr (w.drewN k) (he.drewN k) (hz.drewN k) (hx.drewN k) (hy.drewN k) (hr.drewN k) h1 h2 h3 h4 h5 hd hdx hXb hYb hy0)
  have H0 := Lib.hid (And.intro he (And.intro hz (And.intro hr (And.intro hy (And.intro hyz (And.intro hyr (And.intro h2 (And.intro h5 (And.intro h3 (And.intro hXb (And.intro hYb hy0)))))))))))
  clear hal he hz hx hy hr h1 h2 h3 h4 h5 hd hdx hyz hyr hXb hYb hy0
  go_enter Tryz.func161, Tryz.ntmps161
  go_wp2_with fail
  go_quiet ((go_at_call 148; exact quiet_one (HAL.out _)))
  go_wp2_with fail
  refine (HQ.out _).mono ?_
  rintro e w1 ⟨rfl, v, v2, hq⟩
  obtain ⟨he, hz, hr, hy, hyz, hyr, h2, h5, h3, hXb, hYb, hy0⟩ := H0.out
  have hy1 := hq.other (hz.drewN _) (hr.drewN _) (hy.drewN _) h2.symm h5 hyz hyr
  have c0 := hq.r.neg
  have y0 := hy1.neg
  rw [show decide (ny < 0) = false from decide_eq_false (by omega)] at y0
  have hq' : QRInt w bz br vz vr sz sr (nx.tdiv ny) (nx.tmod ny) v v2 w1 := ⟨hq.q, hq.r, (((Mod.refl _ w).drewN _).trans hq.mod), hq.ownq, hq.ownr, hq.apart⟩
  by_cases hneg : nx.tmod ny < 0
  · rw [decide_eq_true hneg] at c0
    obtain ⟨e1, e2⟩ := euclid_neg hy0 hneg
    have he1 : Env w1 := he.mod hq'.mod (fun k hk => by
      simp only [List.mem_cons, List.mem_append] at hk
      rcases hk with rfl | rfl | hk | hk
      · exact hz.lo
      · exact hr.lo
      · exact hz.vlo k hk
      · exact hr.vlo k hk)
    have HO := Lib.hid (intOne_calls w1 he1.big)
    have HW := Lib.hid (And.intro hq' (And.intro hy1 (And.intro e1 e2)))
    clear he hz hr hy hyz hyr hXb hYb hy0 hq hy1 hq' hneg he1 e1 e2
    go_wp2_with fail
    refine HO.out.mono ?_
    rintro e w2 ⟨b1, v1, rfl, hn⟩
    obtain ⟨he, hz, hr, hy, hyz, hyr, _, _, _, hXb, hYb, hy0⟩ := H0.out
    obtain ⟨hq, hy1, e1, e2⟩ := HW.out
    have kz := hn.apart hq.q
    have kr := hn.apart hq.r
    have ky := hn.apart hy1
    have sm : (1 : Int).natAbs < Big := by
      have hb : 1 < B := by rw [B_eq]; decide
      rw [Big_eq]; exact Nat.lt_of_lt_of_le hb (Nat.le_self_pow (by decide) B)
    have HSUB := Lib.hid (int_sub bz bz b1 sz sz none (nx.tdiv ny) (nx.tdiv ny) 1 v v v1 w2 kz.2.2 kz.2.2 hn.ia (Nat.lt_of_le_of_lt (by rw [Int.natAbs_tdiv]; exact Nat.div_le_self _ _) hXb) sm)
    have HN := Lib.hid (And.intro hn (And.intro kz.2.2 (And.intro kr.2.2 ky.2.2)))
    clear he hz hr hy hyz hyr hXb hYb hy0 hq hy1 e1 e2 hn kz kr ky sm
    go_wp2_with fail
    refine HSUB.out.mono ?_
    rintro e w3 ⟨rfl, v3, h6⟩
    obtain ⟨he, hz, hr, hy, hyz, hyr, _, _, _, hXb, hYb, hy0⟩ := H0.out
    obtain ⟨hq, hy1, e1, e2⟩ := HW.out
    obtain ⟨hn, kz, kr, ky⟩ := HN.out
    have r3 := h6.other kr kz h3.symm (fun j hj hv => hq.apart j hv hj)
    have y3 := h6.other ky kz h2.symm (fun j hj hv => (hq.ownq j hv).elim (hyz j hj) (fun h => by have := hy.nv.zs.lt j hj; omega))
    have HADD := Lib.hid (int_add br br bY sr sr sy (nx.tmod ny) (nx.tmod ny) ny v2 v2 vy w3 r3 r3 y3 (Nat.lt_of_le_of_lt (by rw [Int.natAbs_tmod]; exact Nat.mod_le _ _) hXb) (Nat.lt_trans hYb B39_Big))
    have H6 := Lib.hid (And.intro h6 r3)
    clear he hz hr hy hyz hyr hXb hYb hy0 hq hy1 e1 e2 hn kz kr ky h6 r3 y3
    go_wp2_with fail
    refine HADD.out.mono ?_
    rintro e w4 ⟨rfl, v4, h7⟩
    have H7 := Lib.hid h7
    clear h7
    go_wp2_with fail
    go_ret2
    obtain ⟨hq, hy1, e1, e2⟩ := HW.out
    obtain ⟨hn, kz, kr, ky⟩ := HN.out
    obtain ⟨h6, r3⟩ := H6.out
    have h7 := H7.out
    have sq := hq.mod.size
    have sn := hn.mod.size
    have s6 := h6.mod.size
    have dz : ∀ j, j ∈ sb v3 → j ∉ sb v2 := fun j hj hv => (h6.own j hj).elim (fun h => hq.apart j h hv) (fun h => by have := kr.nv.zs.lt j hv; omega)
    have z4 := h7.other h6.ia r3 h3 dz
    refine ⟨rfl, v3, v4, by rw [e1]; exact z4, by rw [e2]; exact h7.ia, ?_, fun j hj => (h6.own j hj).elim (hq.ownq j) (fun h => .inr (by omega)), fun j hj => (h7.own j hj).elim (hq.ownr j) (fun h => .inr (by omega)), fun j hj hv => ?_⟩
    · refine ((hq.mod.step hn.mod (by simp)).step h6.mod (fun x hx => ?_)).step h7.mod (fun x hx => ?_)
      · rcases List.mem_cons.1 hx with rfl | hx
        · exact .inl (by simp)
        · exact (hq.ownq x hx).imp (fun h => by simp [h]) id
      · rcases List.mem_cons.1 hx with rfl | hx
        · exact .inl (by simp)
        · exact (hq.ownr x hx).imp (fun h => by simp [h]) id
    · rcases h7.own j hv with h | h
      · exact dz j hj h
      · have := h6.ia.nv.zs.lt j hj; omega
  · rw [decide_eq_false hneg] at c0
    obtain ⟨e1, e2⟩ := euclid_pos (a := nx) hy0 (by omega)
    have HF := Lib.hid (show QRInt w bz br vz vr sz sr (nx / ny) (nx % ny) v v2 w1 by rw [e1, e2]; exact hq')
    clear he hz hr hy hyz hyr hXb hYb hy0 hq hy1 hq' hneg e1 e2
    go_wp2_with fail
    go_ret2
    exact ⟨rfl, _, _, HF.out⟩
end Go.Proofs.YtcpjclakdpjjfaaGreatDoor
namespace Go.Proofs.YtcpjclakdpjjfaaGreatDoor
open Go.RowKit Wd
theorem fbits (x : Nat) (w : World) : (callFunc 294 #[.float .f64 x]).run Tryz.prog w = .ok (.value (.int .u64 x)) w := by kernel_rfl
theorem fof10 (w : World) : (callFunc 295 #[.int .u64 4621819117588971520]).run Tryz.prog w = .ok (.value (.float .f64 4621819117588971520)) w := by kernel_rfl
theorem fof2 (w : World) : (callFunc 295 #[.int .u64 4603804719079489536]).run Tryz.prog w = .ok (.value (.float .f64 4603804719079489536)) w := by kernel_rfl
theorem alog (w : World) : (callFunc 281 #[.float .f64 4603804719079489536]).run Tryz.prog w = .ok (.value (.float .f64 13825510489450817230)) w := by kernel_rfl
theorem isNaN_calls (w : World) : Calls Tryz.prog 292 #[.float .f64 4621819117588971520] w fun e w' => e = .returned (.bool false) ∧ w = w' := by
  go_enter Tryz.func292, Tryz.ntmps292
  go_wp2_with fail
  go_ret
  exact ⟨rfl, rfl⟩
set_option maxRecDepth 20000 in
theorem abs_calls (w : World) : Calls Tryz.prog 305 #[.float .f64 4621819117588971520] w fun e w' => e = .returned (.float .f64 4621819117588971520) ∧ w = w' := by
  have h1 := fbits 4621819117588971520
  have h2 := fof10
  have hb : bits BinOp.andNot .u64 4621819117588971520 9223372036854775808 = 4621819117588971520 := by decide +kernel
  go_enter Tryz.func305, Tryz.ntmps305
  go_wp2_with fail
  go_ret
  exact ⟨rfl, rfl⟩
theorem isInf_calls (w : World) : Calls Tryz.prog 291 #[.float .f64 4621819117588971520, .int .i64 0] w fun e w' => e = .returned (.bool false) ∧ w = w' := by
  go_enter Tryz.func291, Tryz.ntmps291
  go_wp2_with fail
  refine (abs_calls w).mono ?_
  rintro e w' ⟨rfl, rfl⟩
  go_wp2_with fail
  go_ret
  exact ⟨rfl, rfl⟩
theorem normalize_calls (w : World) : Calls Tryz.prog 293 #[.float .f64 4621819117588971520] w fun e w' => e = .returned (.tuple #[.float .f64 4621819117588971520, .int .i64 0]) ∧ w = w' := by
  go_enter Tryz.func293, Tryz.ntmps293
  go_wp2_with fail
  refine (abs_calls w).mono ?_
  rintro e w' ⟨rfl, rfl⟩
  go_wp2_with fail
  go_ret2
  exact ⟨rfl, rfl⟩
set_option maxRecDepth 20000 in
theorem frexp_calls (w : World) : Calls Tryz.prog 280 #[.float .f64 4621819117588971520] w fun e w' => e = .returned (.tuple #[.float .f64 4603804719079489536, .int .i64 4]) ∧ w = w' := by
  have h1 := fbits 4621819117588971520
  have h2 := fof2
  have b1 : bits BinOp.andNot .u64 4621819117588971520 9218868437227405312 = 1125899906842624 := by decide +kernel
  have b2 : bits BinOp.or .u64 1125899906842624 4602678819172646912 = 4603804719079489536 := by decide +kernel
  have b3 : bits BinOp.and .u64 1026 2047 = 1026 := by decide +kernel
  go_enter Tryz.func280, Tryz.ntmps280
  go_wp2_with fail
  refine (isInf_calls w).mono ?_
  rintro e w' ⟨rfl, rfl⟩
  go_wp2_with fail
  refine (isNaN_calls w).mono ?_
  rintro e w' ⟨rfl, rfl⟩
  go_wp2_with fail
  refine (normalize_calls w).mono ?_
  rintro e w' ⟨rfl, rfl⟩
  go_wp2_with fail
  go_ret2
  exact ⟨rfl, rfl⟩
theorem frexp0_calls (w : World) : Calls Tryz.prog 263 #[.float .f64 4621819117588971520] w fun e w' => e = .returned (.tuple #[.float .f64 4603804719079489536, .int .i64 4]) ∧ w = w' := by
  go_enter Tryz.func263, Tryz.ntmps263
  go_wp2_with fail
  refine (frexp_calls w).mono ?_
  rintro e w' ⟨rfl, rfl⟩
  go_wp2_with fail
  go_ret2
  exact ⟨rfl, rfl⟩
theorem log_calls (w : World) : Calls Tryz.prog 264 #[.float .f64 4603804719079489536] w fun e w' => e = .returned (.float .f64 13825510489450817230) ∧ w = w' := by
  have h1 := alog
  go_enter Tryz.func264, Tryz.ntmps264
  go_wp2_with fail
  go_ret
  exact ⟨rfl, rfl⟩
theorem fmul (w : World) : (binOp .mul 311 (.float .f64 13825510489450817230) (.float .f64 4609176140021203710)).run Tryz.prog w = .ok (.float .f64 13827654785158443579) w := by kernel_rfl
theorem fcv4 (w : World) : (convert 3 311 (.int .i64 4)).run Tryz.prog w = .ok (.float .f64 4616189618054758400) w := by kernel_rfl
theorem fadd (w : World) : (binOp .add 311 (.float .f64 13827654785158443579) (.float .f64 4616189618054758400)).run Tryz.prog w = .ok (.float .f64 4614662735865160561) w := by kernel_rfl
theorem log2n_calls (w : World) : Calls Tryz.prog 243 #[.float .f64 4621819117588971520] w fun e w' => e = .returned (.float .f64 4614662735865160561) ∧ w = w' := by
  have h1 := fmul
  have h2 := fcv4
  have h3 := fadd
  go_enter Tryz.func243, Tryz.ntmps243
  go_wp2_with fail
  refine (frexp0_calls w).mono ?_
  rintro e w' ⟨rfl, rfl⟩
  go_wp2_with fail
  refine (log_calls w).mono ?_
  rintro e w' ⟨rfl, rfl⟩
  go_wp2_with fail
  go_ret
  exact ⟨rfl, rfl⟩
theorem log2_calls (w : World) : Calls Tryz.prog 217 #[.float .f64 4621819117588971520] w fun e w' => e = .returned (.float .f64 4614662735865160561) ∧ w = w' := by
  go_enter Tryz.func217, Tryz.ntmps217
  go_wp2_with fail
  refine (log2n_calls w).mono ?_
  rintro e w' ⟨rfl, rfl⟩
  go_wp2_with fail
  go_ret
  exact ⟨rfl, rfl⟩
set_option maxRecDepth 20000 in
theorem maxPow_calls (w : World) : Calls Tryz.prog 219 #[.int .u64 10] w fun e w' => e = .returned (.tuple #[.int .u64 10000000000000000000, .int .i64 19]) ∧ w = w' := by
  have hm : ∀ k : Nat, k < 18 → (10 : Nat) ^ (k + 1) ≤ 1844674407370955161 ∧ IntKind.u64.wrap (((10 ^ (k + 1) : Nat) : Int) * 10) = ((10 ^ (k + 2) : Nat) : Int) := by decide +kernel

  go_enter Tryz.func219, Tryz.ntmps219
  go_wp2_with fail
  go_loop [2, 3] (fun p n => ∃ k : Nat, k ≤ 18 ∧ p = .int .u64 ((10 ^ (k + 1) : Nat) : Int) ∧ n = .int .i64 ((k : Int) + 1)) (fun _ n => 19 - (intOf n).toNat)
  case atStart => exact ⟨0, by decide, rfl, rfl⟩
  case round =>
    obtain ⟨k, hk, rfl, rfl⟩ := hrel
    rcases Nat.lt_or_ge k 18 with h | h
    · obtain ⟨m1, m2⟩ := hm k h
      have m3 : decide ((((10 : Nat) ^ (k + 1) : Nat) : Int) ≤ 1844674407370955161) = true := by simp only [decide_eq_true_eq]; omega
      generalize hx : (10 : Nat) ^ (k + 1) = x at *
      generalize hy : (10 : Nat) ^ (k + 2) = y at *
      have HX := Lib.hid (And.intro hx hy)
      clear hm m1 hx hy
      go_wp2_with fail
      go_round
      case rel => exact ⟨k + 1, by omega, by rw [← HX.out.2], by go_num⟩
      case measure => simp [intOf]; omega
    · obtain rfl : k = 18 := by omega
      have hp' : (((10 : Nat) ^ (18 + 1) : Nat) : Int) = 10000000000000000000 := by rw [show (10 : Nat) ^ (18 + 1) = 10000000000000000000 by decide +kernel]; rfl
      generalize hx : (((10 : Nat) ^ (18 + 1) : Nat) : Int) = x at *
      subst hp'
      clear hm hx
      go_wp2_with fail
      go_ret2
      exact ⟨rfl, rfl⟩
end Go.Proofs.YtcpjclakdpjjfaaGreatDoor
namespace Go.Proofs.YtcpjclakdpjjfaaGreatDoor
open Go.RowKit Wd
theorem or_up {x z : Nat} (hx : x < B) (hz : z ≤ x) : ∃ y : Nat, bits BinOp.or IntKind.u64 (x : Int) (z : Int) = (y : Int) ∧ x ≤ y ∧ y < B := by
  refine ⟨x ||| z, ?_, Nat.left_le_or, ?_⟩
  · have h1 : x < 2 ^ 64 := by rw [B_eq] at hx; exact hx
    have h2 : z < 2 ^ 64 := by omega
    exact bits_or_u64_nat _ _ h1 h2
  · have h1 : x < 2 ^ 64 := by rw [B_eq] at hx; exact hx
    have h2 : z < 2 ^ 64 := by omega
    rw [B_eq]
    exact Nat.or_lt_two_pow h1 h2
theorem or_dn {x : Nat} (d : Nat) (hx : x < B) : ∃ y : Nat, bits BinOp.or IntKind.u64 (x : Int) ((x : Int) / (d : Int)) = (y : Int) ∧ x ≤ y ∧ y < B := by
  have h := or_up hx (Nat.div_le_self x d)
  rwa [Int.natCast_ediv] at h
theorem or_dn2 {x : Nat} (d : Nat) (hx : x < B) : ∃ y : Nat, bits BinOp.or IntKind.u64 (x : Int) ((x : Int) / (d : Int) / (d : Int)) = (y : Int) ∧ x ≤ y ∧ y < B := by
  have h := or_up hx (Nat.le_trans (Nat.div_le_self (x / d) d) (Nat.div_le_self x d))
  rwa [Int.natCast_ediv, Int.natCast_ediv] at h
theorem lt_bitLen {x y : Nat} (hy : y < B) (h : x ≤ y) : x < 2 ^ Lib.bitLen y ∧ Lib.bitLen y ≤ 64 := by
  rcases Nat.eq_zero_or_pos y with rfl | h0
  · have : x = 0 := by omega
    subst this
    decide
  · rw [bitLen_log2 (by omega) hy]
    have h1 : Nat.log2 y < 64 := (Nat.log2_lt (by omega)).2 (by rw [B_eq] at hy; exact hy)
    have h2 : y < 2 ^ (Nat.log2 y + 1) := Nat.lt_log2_self
    omega
def BlRet (n l : Nat) (w : World) (e : Ending) (w' : World) : Prop := ∃ r : Nat, e = .returned (.int .i64 r) ∧ w = w' ∧ n < 2 ^ r ∧ r ≤ 64 * l
set_option maxHeartbeats 1600000 in
theorem bitLen_pos (b l c : Nat) (ws : List Nat) (w : World) (hb : Blk w b ws) (h0 : 0 < l) (hl : l ≤ ws.length) (h8 : l ≤ 1000) :
    Calls Tryz.prog 216 #[.slice (some ⟨b, 0, none⟩) l c] w (BlRet (val (ws.take l)) l w) := by
  obtain ⟨k, rfl⟩ : ∃ k, l = k + 1 := ⟨l - 1, by omega⟩
  have hv := val_take_succ ws k (by omega)
  have hlow := val_lt (xs := ws.take k) (fun x hx => hb.wl x (List.mem_of_mem_take hx))
  rw [List.length_take, Nat.min_eq_left (by omega)] at hlow
  have r1 := hb.cell (i := k) (by omega)
  have hxe : ws[k]'(by omega) = wat ws k := by simp [wat, List.getD_eq_getElem?_getD, List.getElem?_eq_getElem (show k < ws.length by omega)]
  have hx0 := hb.wl _ (List.getElem_mem (show k < ws.length by omega))
  rw [hxe] at hv hx0
  generalize hx : wat ws k = x at *
  obtain ⟨y1, e1, l1, b1⟩ : ∃ y : Nat, bits BinOp.or IntKind.u64 (x : Int) ((x : Int) / 2) = (y : Int) ∧ x ≤ y ∧ y < B := or_dn 2 hx0
  obtain ⟨y2, e2, l2, b2⟩ : ∃ y : Nat, bits BinOp.or IntKind.u64 (y1 : Int) ((y1 : Int) / 4) = (y : Int) ∧ y1 ≤ y ∧ y < B := or_dn 4 b1
  obtain ⟨y3, e3, l3, b3⟩ : ∃ y : Nat, bits BinOp.or IntKind.u64 (y2 : Int) ((y2 : Int) / 16) = (y : Int) ∧ y2 ≤ y ∧ y < B := or_dn 16 b2
  obtain ⟨y4, e4, l4, b4⟩ : ∃ y : Nat, bits BinOp.or IntKind.u64 (y3 : Int) ((y3 : Int) / 256) = (y : Int) ∧ y3 ≤ y ∧ y < B := or_dn 256 b3
  obtain ⟨y5, e5, l5, b5⟩ : ∃ y : Nat, bits BinOp.or IntKind.u64 (y4 : Int) ((y4 : Int) / 65536) = (y : Int) ∧ y4 ≤ y ∧ y < B := or_dn 65536 b4
  obtain ⟨y6, e6, l6, b6⟩ : ∃ y : Nat, bits BinOp.or IntKind.u64 (y5 : Int) ((y5 : Int) / 65536 / 65536) = (y : Int) ∧ y5 ≤ y ∧ y < B := or_dn2 65536 b5
  obtain ⟨hb1, hb2⟩ := lt_bitLen b6 (show x ≤ y6 by omega)
  obtain ⟨L, hL⟩ : ∃ L, Lib.bitLen y6 = L := ⟨_, rfl⟩
  have L1 := Tryz.bits_Len (y6 : Int) w (by omega) (by rw [B_eq] at b6; omega)
  rw [Int.toNat_natCast, hL] at L1
  rw [hL] at hb1 hb2
  have L1 := Lib.hid L1
  have HN := Lib.hid (And.intro hv (And.intro hlow (And.intro hb1 hb2)))
  have hb3 : (L : Int) ≤ 64 := by omega
  have hb4 : (0 : Int) ≤ L := by omega
  clear hL hv hlow hb1 hb2 l1 l2 l3 l4 l5 l6 b1 b2 b3 b4 b5 b6 hx0 hx hxe
  go_enter Tryz.func216, Tryz.ntmps216
  go_wp2_with fail
  refine L1.out.mono ?_
  rintro e w' ⟨rfl, hw⟩
  subst hw
  go_wp2_with fail
  go_ret
  obtain ⟨hv, hlow, hb1, hb2⟩ := HN.out
  refine ⟨k * 64 + L, by go_num, rfl, ?_, by omega⟩
  rw [hv, Nat.pow_add]
  have hB : B ^ k = 2 ^ (k * 64) := by rw [show B = 2 ^ 64 by rw [B_eq], ← Nat.pow_mul, Nat.mul_comm]
  rw [← hB]
  calc val (ws.take k) + B ^ k * x < B ^ k + B ^ k * x := by omega
    _ = B ^ k * (x + 1) := by rw [Nat.mul_succ, Nat.add_comm]
    _ ≤ B ^ k * 2 ^ L := Nat.mul_le_mul_left _ hb1
theorem divisors_calls (s m : Nat) (w : World) (he : Env w) (hm : m ≤ 8) : Calls Tryz.prog 220 #[.pointer (some ⟨s, 0, none⟩), .int .i64 m, .int .u64 10, .int .i64 19, .int .u64 10000000000000000000] w fun e w' => e = .returned (.slice none 0 0) ∧ w = w' := by
  have g := he.g12
  have t : decide ((m : Int) ≤ 8) = true := by simp; omega
  go_enter Tryz.func220, Tryz.ntmps220
  go_wp2_with fail
  go_ret
  exact ⟨rfl, rfl⟩
end Go.Proofs.YtcpjclakdpjjfaaGreatDoor
