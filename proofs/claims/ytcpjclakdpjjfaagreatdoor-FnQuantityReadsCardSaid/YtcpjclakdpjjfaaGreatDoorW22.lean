/- strings.Reader: NewReader, ReadByte, UnreadByte. Whole numbers read (bigall/natconv.go: pow; intconv.go: scanSign). -/
import Derived.Test.YtcpjclakdpjjfaaGreatDoorW11
import Derived.Test.YtcpjclakdpjjfaaGreatDoorW19
namespace Go.Proofs.YtcpjclakdpjjfaaGreatDoor
open Go.RowKit Wd
/-- Block b is a reader over s, at place i. -/
def Rd (w : World) (b : Nat) (s : ByteArray) (i p : Int) : Prop := Hd w b 219 #[.string s, .int .i64 i, .int .i64 p]
theorem newReader_calls (s : ByteArray) (w : World) : Calls Tryz.prog 105 #[.string s] w fun e w' => e = .returned (.pointer (some ⟨w.heap.size, 0, none⟩)) ∧ Rd w' w.heap.size s 0 (-1) ∧ Mod [] w w' := by
  have h := Hd.new w 219 #[.string s, .int .i64 0, .int .i64 (-1)]
  have H := Lib.hid h
  clear h
  go_enter Tryz.func105, Tryz.ntmps105
  go_wp2_with fail
  go_ret
  exact ⟨rfl, H.out, (Mod.refl [] w).alloc _⟩
set_option maxHeartbeats 1600000 in
theorem readByte_ok (b i : Nat) (p : Int) (s : ByteArray) (w : World) (h : Rd w b s i p) (hi : i < s.size) (hc : s.size ≤ 1000000) :
    Calls Tryz.prog 336 #[.pointer (some ⟨b, 0, none⟩)] w fun e w' => e = .returned (.tuple #[.int .u8 ((s[i]'hi).toNat : Int), .nilIface]) ∧ Rd w' b s ((i + 1 : Nat) : Int) (-1) ∧ Mod [b] w w' := by
  have c0 := h.cell (i := 0) (v := .string s) rfl
  have c1 := h.cell (i := 1) (v := .int .i64 i) rfl
  have c2 := h.cell (i := 2) (v := .int .i64 p) rfl
  have fr := h.free
  have t1 : decide ((s.size : Int) ≤ (i : Int)) = false := by simp; omega
  have h1 : Rd (w.setCell ⟨b, 2, none⟩ (.int .i64 (-1))) b s i (-1) := h.set 2 _
  have m1 : Mod [b] w (w.setCell ⟨b, 2, none⟩ (.int .i64 (-1))) := (Mod.refl [b] w).setCell _ (.inl (by simp))
  have HX := Lib.hid (And.intro h1 m1)
  clear h h1 m1
  go_enter Tryz.func336, Tryz.ntmps336
  go_wp2_with fail
  obtain ⟨h1, m1⟩ := HX.out
  clear c0 c1 c2 fr HX
  generalize w.setCell ⟨b, 2, none⟩ (.int .i64 (-1)) = w1 at *
  have c0 := h1.cell (i := 0) (v := .string s) rfl
  have c1 := h1.cell (i := 1) (v := .int .i64 i) rfl
  have fr := h1.free 1
  have H1 := Lib.hid (And.intro h1 m1)
  clear h1 m1
  go_quiet (fail)
  go_wp2_with fail
  go_quiet (fail)
  go_wp2_with fail
  go_ret2
  obtain ⟨h1, m1⟩ := H1.out
  exact ⟨rfl, Hd.set (h1.mod ((Mod.refl [] w1).drewN _) (by simp)) 1 _, (m1.drewN _).setCell _ (.inl (by simp))⟩
set_option maxHeartbeats 1600000 in
theorem readByte_end (b i : Nat) (p : Int) (s : ByteArray) (ev : Value) (w : World) (h : Rd w b s i p) (hi : s.size ≤ i) (he : w.cell? ⟨3, 0, none⟩ = some ev) (hb : 19 ≤ b) :
    Calls Tryz.prog 336 #[.pointer (some ⟨b, 0, none⟩)] w fun e w' => e = .returned (.tuple #[.int .u8 0, ev]) ∧ Rd w' b s i (-1) ∧ Mod [b] w w' := by
  have c0 := h.cell (i := 0) (v := .string s) rfl
  have c1 := h.cell (i := 1) (v := .int .i64 i) rfl
  have c2 := h.cell (i := 2) (v := .int .i64 p) rfl
  have fr := h.free
  have t1 : decide ((s.size : Int) ≤ (i : Int)) = true := by simp; omega
  have h1 : Rd (w.setCell ⟨b, 2, none⟩ (.int .i64 (-1))) b s i (-1) := h.set 2 _
  have m1 : Mod [b] w (w.setCell ⟨b, 2, none⟩ (.int .i64 (-1))) := (Mod.refl [b] w).setCell _ (.inl (by simp))
  have e1 : (w.setCell ⟨b, 2, none⟩ (.int .i64 (-1))).cell? ⟨3, 0, none⟩ = some ev := (m1.cell (p := ⟨3, 0, none⟩) (World.block_lt_of_cell? w _ he) (by simp; omega)).trans he
  have HX := Lib.hid (And.intro h1 (And.intro m1 e1))
  clear h h1 m1 e1 he
  go_enter Tryz.func336, Tryz.ntmps336
  go_wp2_with fail
  obtain ⟨h1, m1, e1⟩ := HX.out
  clear c0 c1 c2 fr HX
  generalize w.setCell ⟨b, 2, none⟩ (.int .i64 (-1)) = w1 at *
  have c0 := h1.cell (i := 0) (v := .string s) rfl
  have c1 := h1.cell (i := 1) (v := .int .i64 i) rfl
  have H1 := Lib.hid (And.intro h1 m1)
  clear h1 m1
  go_quiet (fail)
  go_wp2_with fail
  go_quiet (fail)
  go_wp2_with fail
  go_ret2
  obtain ⟨h1, m1⟩ := H1.out
  exact ⟨rfl, h1.mod (((Mod.refl [] w1).drewN _).drewN _) (by simp), (m1.drewN _).drewN _⟩
set_option maxHeartbeats 1600000 in
theorem unreadByte_calls (b i : Nat) (p : Int) (s : ByteArray) (w : World) (h : Rd w b s ((i + 1 : Nat) : Int) p) (hi : i ≤ 1000000) :
    Calls Tryz.prog 337 #[.pointer (some ⟨b, 0, none⟩)] w fun e w' => e = .returned .nilIface ∧ Rd w' b s (i : Int) (-1) ∧ Mod [b] w w' := by
  have c0 := h.cell (i := 0) (v := .string s) rfl
  have c1 := h.cell (i := 1) (v := .int .i64 ((i + 1 : Nat) : Int)) rfl
  have c2 := h.cell (i := 2) (v := .int .i64 p) rfl
  have fr := h.free
  have t1 : decide (((i + 1 : Nat) : Int) ≤ 0) = false := by simp
  have h1 : Rd (w.setCell ⟨b, 2, none⟩ (.int .i64 (-1))) b s ((i + 1 : Nat) : Int) (-1) := h.set 2 _
  have m1 : Mod [b] w (w.setCell ⟨b, 2, none⟩ (.int .i64 (-1))) := (Mod.refl [b] w).setCell _ (.inl (by simp))
  have h2 : Rd ((w.setCell ⟨b, 2, none⟩ (.int .i64 (-1))).setCell ⟨b, 1, none⟩ (.int .i64 (i : Int))) b s (i : Int) (-1) := h1.set 1 _
  have HX := Lib.hid (And.intro h2 (m1.setCell (p := ⟨b, 1, none⟩) (.int .i64 (i : Int)) (.inl (by simp))))
  clear h h1 m1 h2
  go_enter Tryz.func337, Tryz.ntmps337
  go_wp2_with fail
  go_ret
  exact ⟨rfl, HX.out⟩
end Go.Proofs.YtcpjclakdpjjfaaGreatDoor
namespace Go.Proofs.YtcpjclakdpjjfaaGreatDoor
open Go.RowKit Wd
theorem meth_readByte (b : Nat) (w : World) : (method 524 171 (.pointer (some ⟨b, 0, none⟩)) "ReadByte").run Tryz.prog w = .ok (336, .pointer (some ⟨b, 0, none⟩)) w := by kernel_rfl
theorem meth_unreadByte (b : Nat) (w : World) : (method 524 171 (.pointer (some ⟨b, 0, none⟩)) "UnreadByte").run Tryz.prog w = .ok (337, .pointer (some ⟨b, 0, none⟩)) w := by kernel_rfl
theorem pow_odd {p x n N : Nat} (h : p * x ^ n % B = N % B) (ho : n % 2 = 1) : (p * x % B) * (x * x % B) ^ (n / 2) % B = N % B := by
  have e : n = 2 * (n / 2) + 1 := by omega
  rw [← h, Nat.mul_mod, Nat.pow_mod, Nat.mod_mod, Nat.mod_mod, ← Nat.pow_mod, ← Nat.mul_mod]
  conv => rhs; rw [e, Nat.pow_succ, Nat.pow_mul]
  rw [show x ^ 2 = x * x from Nat.pow_two x]
  congr 1
  rw [Nat.mul_assoc, Nat.mul_comm x]
theorem pow_even {p x n N : Nat} (h : p * x ^ n % B = N % B) (ho : n % 2 = 0) : p * (x * x % B) ^ (n / 2) % B = N % B := by
  have e : n = 2 * (n / 2) := by omega
  rw [← h, Nat.mul_mod, Nat.pow_mod, Nat.mod_mod, ← Nat.pow_mod, ← Nat.mul_mod]
  conv => rhs; rw [e, Nat.pow_mul]
  rw [show x ^ 2 = x * x from Nat.pow_two x]
theorem u64_mul (x y : Nat) : IntKind.u64.wrap ((x : Int) * (y : Int)) = ((x * y % B : Nat) : Int) := by
  rw [u64_wrap]; push_cast; rfl
theorem and_one (n : Nat) (h : n ≤ 100) : bits BinOp.and IntKind.i64 (n : Int) 1 = ((n % 2 : Nat) : Int) := by
  have : ∀ n : Nat, n < 101 → bits BinOp.and IntKind.i64 (n : Int) 1 = ((n % 2 : Nat) : Int) := by decide +kernel
  exact this n (by omega)
set_option maxHeartbeats 800000 in
theorem pow_calls (N : Nat) (w : World) (hN : N ≤ 19) : Calls Tryz.prog 251 #[.int .u64 10, .int .i64 N] w fun e w' => e = .returned (.int .u64 ((10 ^ N : Nat) : Int)) ∧ w = w' := by
  have hB : 10 ^ N < B := by
    rw [B_eq]; exact Nat.lt_of_le_of_lt (Nat.pow_le_pow_right (by decide) hN) (by decide)
  have hN0 : (10 : Nat) ^ N = 10 ^ N := rfl
  generalize hT : (10 : Nat) ^ N = T at *
  have HB := Lib.hid (And.intro hB hT)
  clear hB hT hN0
  go_enter Tryz.func251, Tryz.ntmps251
  go_wp2_with fail
  go_loop [0, 1, 4] (fun t0 t1 t4 => ∃ x n p : Nat, t0 = .int .u64 x ∧ t1 = .int .i64 n ∧ t4 = .int .u64 p ∧ n ≤ 19 ∧ p < B ∧ p * x ^ n % B = T % B) (fun _ t1 _ => (intOf t1).toNat)
  case atStart => exact ⟨10, N, 1, rfl, rfl, rfl, hN, by rw [B_eq]; decide, by rw [Nat.one_mul, HB.out.2]⟩
  case round =>
    obtain ⟨x, n, p, rfl, rfl, rfl, hn, hp, hrel⟩ := hrel
    rcases Nat.eq_zero_or_pos n with rfl | h0
    · have e : p = T := by rw [Nat.pow_zero, Nat.mul_one, Nat.mod_eq_of_lt hp, Nat.mod_eq_of_lt HB.out.1] at hrel; exact hrel
      have HE := Lib.hid e
      clear hrel e hp
      go_wp2_with fail
      go_ret
      exact ⟨by rw [← HE.out]; rfl, rfl⟩
    · have t1 : decide ((0 : Int) < (n : Int)) = true := by simp; omega
      have a1 := and_one n (by omega)
      have m1 := u64_mul p x
      have m2 := u64_mul x x
      have hxB : p * x % B < B := Nat.mod_lt _ B_pos
      rcases Nat.mod_two_eq_zero_or_one n with hz | hz
      · rw [hz] at a1
        have HR := Lib.hid (And.intro (pow_even hrel hz) (And.intro hp h0))
        generalize x * x % B = y at *
        clear hrel hp hz hxB m1
        go_wp2_with fail
        go_round
        case rel => exact ⟨y, n / 2, p, rfl, by first | rfl | go_num, rfl, by omega, HR.out.2.1, HR.out.1⟩
        case measure => have := HR.out.2.2; simp [intOf]; omega
      · rw [hz] at a1
        have HR := Lib.hid (And.intro (pow_odd hrel hz) (And.intro hxB h0))
        generalize x * x % B = y at *
        generalize p * x % B = q at *
        clear hrel hp hz hxB
        go_wp2_with fail
        go_round
        case rel => exact ⟨y, n / 2, q, rfl, by first | rfl | go_num, rfl, by omega, HR.out.2.1, HR.out.1⟩
        case measure => have := HR.out.2.2; simp [intOf]; omega
end Go.Proofs.YtcpjclakdpjjfaaGreatDoor
