/- The package's small functions on int64 (resource/math.go). Numbers in normal form: sign, digits, exponent; plain. Quantities as words: suffixes, numbers, what may be told; plain. A word as the parser sees it: places and bytes; plain. A byte among others (resource/zz_search.go). Blocks of cells; what an append has grown. The canonical text as the reference reckons it, plain. The reference's rows of digits and numbers in memory. Numbers from rows of digits (spec/quantities.go: decimal). -/
import Derived.Test.YtcpjclakdpjjfaaGreatDoorW01
import Derived.Test.YtcpjclakdpjjfaaGreatDoorW05
import Derived.Laws.RangeString
import Derived.Lib.OthersKept
import Derived.Deep.LoopGhost
import Derived.LoopTactic
import Derived.Lib.AppendZeros
import Derived.Handy
namespace Go.Proofs.YtcpjclakdpjjfaaGreatDoor
open Go.RowKit Dg
def i64 (a : Int) : Prop := -9223372036854775808 ≤ a ∧ a ≤ 9223372036854775807
/-- A number, and whether it is x. -/
def OkRet (w : World) (x : Int) (e : Ending) (w' : World) : Prop := ∃ c ok, e = .returned (.tuple #[.int .i64 c, .bool ok]) ∧ (∃ m, w' = w.drewN m) ∧ (ok = true → c = x) ∧ i64 c
theorem wrap64_i64 (x : Int) : i64 (wrap64 x) := by unfold i64 wrap64; omega
theorem wrap64_ex (x : Int) : ∃ k : Int, wrap64 x = x + k * 18446744073709551616 := by
  refine ⟨-((x + 9223372036854775808) / 18446744073709551616), ?_⟩
  unfold wrap64; omega
theorem mul_ok {a b : Int} (hb : b ≠ 0) (hb1 : -9223372036854775807 ≤ b) (hb2 : b ≤ 9223372036854775807) (ha : -9223372036854775807 ≤ a) (h : wrap64 ((wrap64 (a * b)).tdiv b) = a) : wrap64 (a * b) = a * b := by
  obtain ⟨k, hk⟩ := wrap64_ex (a * b)
  have hr := wrap64_i64 (a * b)
  unfold i64 at hr
  generalize wrap64 (a * b) = c at *
  have e : c.tdiv b = a := by
    have h1 : (c.tdiv b).natAbs ≤ c.natAbs := by rw [Int.natAbs_tdiv]; exact Nat.div_le_self _ _
    unfold wrap64 at h; omega
  exact mul_back hb hb1 hb2 ⟨k, hk⟩ e
theorem OkRet.mk {w : World} {x c : Int} {ok : Bool} (m : Nat) (h : ok = true → c = x) (hc : i64 c) : OkRet w x (.returned (.tuple #[.int .i64 c, .bool ok])) (w.drewN m) := ⟨c, ok, rfl, ⟨m, rfl⟩, h, hc⟩
theorem mul_ok' {a b : Int} (hb : b ≠ 0) (hb1 : -9223372036854775807 ≤ b) (hb2 : b ≤ 9223372036854775807) (ha : -9223372036854775807 ≤ a) : (wrap64 ((wrap64 (a * b)).tdiv b) == a) = true → wrap64 (a * b) = a * b :=
  fun h => mul_ok hb hb1 hb2 ha (by simpa using h)
theorem OkRet.same {w : World} {x c : Int} {ok : Bool} (h : ok = true → c = x) (hc : i64 c) : OkRet w x (.returned (.tuple #[.int .i64 c, .bool ok])) w := ⟨c, ok, rfl, ⟨0, rfl⟩, h, hc⟩
theorem OkRet.no {w : World} {x : Int} : OkRet w x (.returned (.tuple #[.int .i64 0, .bool false])) w := .same (fun h => by cases h) (by unfold i64; omega)
set_option maxHeartbeats 400000 in
theorem int64Multiply_calls (a b : Int) (w : World) (ha : i64 a) (hb : i64 b) :
    Calls Tryz.prog 62 #[.int .i64 a, .int .i64 b] w (OkRet w (a * b)) := by
  unfold i64 at ha hb
  by_cases h0 : a = 0 ∨ b = 0 ∨ a = 1 ∨ b = 1
  · rcases h0 with rfl | rfl | rfl | rfl
    all_goals
      go_enter Tryz.func62, Tryz.ntmps62
      go_wp2_with fail
      all_goals (go_ret2; exact OkRet.same (fun _ => by first | omega | simp_all) (by unfold i64; omega))
  · have t1 : (a == 0) = false := by simp; omega
    have t2 : (b == 0) = false := by simp; omega
    have t3 : (a == 1) = false := by simp; omega
    have t4 : (b == 1) = false := by simp; omega
    by_cases h1 : a = -9223372036854775808 ∨ b = -9223372036854775808
    · rcases h1 with rfl | rfl
      all_goals
        clear h0
        go_enter Tryz.func62, Tryz.ntmps62
        go_wp2_with fail
        all_goals (go_ret2; exact OkRet.no)
    · have t5 : (a == -9223372036854775808) = false := by simp; omega
      have t6 : (b == -9223372036854775808) = false := by simp; omega
      have t7 : ¬ b = 0 := by omega
      have fin := fun m => OkRet.mk (w := w) m (mul_ok' (a := a) (b := b) (by omega) (by omega) (by omega) (by omega)) (wrap64_i64 _)
      have FIN := Lib.hid fin
      clear h1 h0 fin
      go_enter Tryz.func62, Tryz.ntmps62
      go_wp2_with fail
      go_quiet (fail)
      go_wp2_with fail
      go_ret2
      exact FIN.out _
set_option maxHeartbeats 400000 in
theorem int64MultiplyScale_calls (a b : Int) (w : World) (ha : i64 a) (hb0 : 1 < b) (hb : b ≤ 1000000000) :
    Calls Tryz.prog 166 #[.int .i64 a, .int .i64 b] w (OkRet w (a * b)) := by
  unfold i64 at ha
  by_cases h0 : a = 0 ∨ a = 1
  · rcases h0 with rfl | rfl
    all_goals
      go_enter Tryz.func166, Tryz.ntmps166
      go_wp2_with fail
      all_goals (go_ret2; exact OkRet.same (fun _ => by first | omega | simp_all) (by unfold i64; omega))
  · have t1 : (a == 0) = false := by simp; omega
    have t3 : (a == 1) = false := by simp; omega
    have t9 : (b != 1) = true := by simp; omega
    by_cases h1 : a = -9223372036854775808
    · subst h1
      clear h0
      go_enter Tryz.func166, Tryz.ntmps166
      go_wp2_with fail
      all_goals (go_ret2; exact OkRet.no)
    · have t5 : (a == -9223372036854775808) = false := by simp; omega
      have t7 : ¬ b = 0 := by omega
      have fin := fun m => OkRet.mk (w := w) m (mul_ok' (a := a) (b := b) (by omega) (by omega) (by omega) (by omega)) (wrap64_i64 _)
      have FIN := Lib.hid fin
      clear h1 h0 fin
      go_enter Tryz.func166, Tryz.ntmps166
      go_wp2_with fail
      go_quiet (fail)
      go_wp2_with fail
      go_ret2
      exact FIN.out _
set_option maxHeartbeats 400000 in
theorem int64MultiplyScale10_calls (a : Int) (w : World) (ha : i64 a) :
    Calls Tryz.prog 128 #[.int .i64 a] w (OkRet w (a * 10)) := by
  unfold i64 at ha
  by_cases h0 : a = 0 ∨ a = 1
  · rcases h0 with rfl | rfl
    all_goals
      go_enter Tryz.func128, Tryz.ntmps128
      go_wp2_with fail
      all_goals (go_ret2; exact OkRet.same (fun _ => by first | omega | simp_all) (by unfold i64; omega))
  · have t1 : (a == 0) = false := by simp; omega
    have t3 : (a == 1) = false := by simp; omega
    by_cases h1 : a = -9223372036854775808
    · subst h1
      clear h0
      go_enter Tryz.func128, Tryz.ntmps128
      go_wp2_with fail
      all_goals (go_ret2; exact OkRet.no)
    · have t5 : (a == -9223372036854775808) = false := by simp; omega
      have fin := fun m => OkRet.mk (w := w) m (mul_ok' (a := a) (b := 10) (by omega) (by omega) (by omega) (by omega)) (wrap64_i64 _)
      have FIN := Lib.hid fin
      clear h1 h0 fin
      go_enter Tryz.func128, Tryz.ntmps128
      go_wp2_with fail
      go_ret2
      exact FIN.out 0
set_option maxHeartbeats 400000 in
theorem int64MultiplyScale100_calls (a : Int) (w : World) (ha : i64 a) :
    Calls Tryz.prog 130 #[.int .i64 a] w (OkRet w (a * 100)) := by
  unfold i64 at ha
  by_cases h0 : a = 0 ∨ a = 1
  · rcases h0 with rfl | rfl
    all_goals
      go_enter Tryz.func130, Tryz.ntmps130
      go_wp2_with fail
      all_goals (go_ret2; exact OkRet.same (fun _ => by first | omega | simp_all) (by unfold i64; omega))
  · have t1 : (a == 0) = false := by simp; omega
    have t3 : (a == 1) = false := by simp; omega
    by_cases h1 : a = -9223372036854775808
    · subst h1
      clear h0
      go_enter Tryz.func130, Tryz.ntmps130
      go_wp2_with fail
      all_goals (go_ret2; exact OkRet.no)
    · have t5 : (a == -9223372036854775808) = false := by simp; omega
      have fin := fun m => OkRet.mk (w := w) m (mul_ok' (a := a) (b := 100) (by omega) (by omega) (by omega) (by omega)) (wrap64_i64 _)
      have FIN := Lib.hid fin
      clear h1 h0 fin
      go_enter Tryz.func130, Tryz.ntmps130
      go_wp2_with fail
      go_ret2
      exact FIN.out 0
set_option maxHeartbeats 400000 in
theorem int64MultiplyScale1000_calls (a : Int) (w : World) (ha : i64 a) :
    Calls Tryz.prog 165 #[.int .i64 a] w (OkRet w (a * 1000)) := by
  unfold i64 at ha
  by_cases h0 : a = 0 ∨ a = 1
  · rcases h0 with rfl | rfl
    all_goals
      go_enter Tryz.func165, Tryz.ntmps165
      go_wp2_with fail
      all_goals (go_ret2; exact OkRet.same (fun _ => by first | omega | simp_all) (by unfold i64; omega))
  · have t1 : (a == 0) = false := by simp; omega
    have t3 : (a == 1) = false := by simp; omega
    by_cases h1 : a = -9223372036854775808
    · subst h1
      clear h0
      go_enter Tryz.func165, Tryz.ntmps165
      go_wp2_with fail
      all_goals (go_ret2; exact OkRet.no)
    · have t5 : (a == -9223372036854775808) = false := by simp; omega
      have fin := fun m => OkRet.mk (w := w) m (mul_ok' (a := a) (b := 1000) (by omega) (by omega) (by omega) (by omega)) (wrap64_i64 _)
      have FIN := Lib.hid fin
      clear h1 h0 fin
      go_enter Tryz.func165, Tryz.ntmps165
      go_wp2_with fail
      go_ret2
      exact FIN.out 0
set_option maxHeartbeats 400000 in
theorem pow10_calls (n : Nat) (w : World) (hn : n ≤ 18) :
    Calls Tryz.prog 164 #[.int .i64 n] w fun e w' => e = .returned (.int .i64 ((10 ^ n : Nat) : Int)) ∧ w = w' := by
  have h : n = 0 ∨ n = 1 ∨ n = 2 ∨ n = 3 ∨ n = 4 ∨ n = 5 ∨ n = 6 ∨ n = 7 ∨ n = 8 ∨ n = 9 ∨ n = 10 ∨ n = 11 ∨ n = 12 ∨ n = 13 ∨ n = 14 ∨ n = 15 ∨ n = 16 ∨ n = 17 ∨ n = 18 := by omega
  clear hn
  rcases h with rfl | rfl | rfl | rfl | rfl | rfl | rfl | rfl | rfl | rfl | rfl | rfl | rfl | rfl | rfl | rfl | rfl | rfl | rfl
  all_goals
    go_enter Tryz.func164, Tryz.ntmps164
    go_wp2_with fail
    go_ret
    exact ⟨rfl, rfl⟩
theorem OkRet.conv {w w' : World} {x : Int} {e : Ending} (h : OkRet w x e w') (m : Nat) : OkRet w x e (w'.drewN m) := by
  obtain ⟨c, ok, h1, ⟨k, rfl⟩, h3, h4⟩ := h
  exact ⟨c, ok, h1, ⟨k + m, by rw [World.drewN_drewN]⟩, h3, h4⟩
set_option maxHeartbeats 800000 in
theorem positiveScale_calls (a : Int) (n : Nat) (w : World) (ha : i64 a) (hn : n ≤ 100000) :
    Calls Tryz.prog 134 #[.int .i64 a, .int .i32 n] w (OkRet w (a * (10 ^ n : Nat))) := by
  by_cases h : n = 0 ∨ n = 1 ∨ n = 2 ∨ n = 3 ∨ n = 6 ∨ n = 9
  · rcases h with rfl | rfl | rfl | rfl | rfl | rfl
    · go_enter Tryz.func134, Tryz.ntmps134
      go_wp2_with fail
      go_ret2
      exact OkRet.same (fun _ => by simp) ha
    all_goals
      go_enter Tryz.func134, Tryz.ntmps134
      go_wp2_with fail
      first
        | refine (int64MultiplyScale10_calls a w ha).mono ?_
        | refine (int64MultiplyScale100_calls a w ha).mono ?_
        | refine (int64MultiplyScale1000_calls a w ha).mono ?_
        | refine (int64MultiplyScale_calls a _ w ha (by omega) (by omega)).mono ?_
      rintro e w' ⟨c, ok, rfl, ⟨m, rfl⟩, h1, h2⟩
      have H := Lib.hid h1
      clear h1
      go_wp2_with fail
      go_ret2
      exact ⟨c, ok, rfl, ⟨m, rfl⟩, fun h => by have := H.out h; simpa using this, h2⟩
  · have t0 : ((n : Int) == 0) = false := by simp; omega
    have t1 : ((n : Int) == 1) = false := by simp; omega
    have t2 : ((n : Int) == 2) = false := by simp; omega
    have t3 : ((n : Int) == 3) = false := by simp; omega
    have t6 : ((n : Int) == 6) = false := by simp; omega
    have t9 : ((n : Int) == 9) = false := by simp; omega
    clear h
    go_enter Tryz.func134, Tryz.ntmps134
    go_wp2_with fail
    go_loopw [6, 7, 8] (fun v _ i wr => ∃ (k : Nat) (c : Int), k ≤ n ∧ i = .int .i32 k ∧ v = .int .i64 c ∧ c = a * (10 ^ k : Nat) ∧ i64 c ∧ ∃ m, wr = w.drewN m) (fun _ _ i _ => n - (intOf i).toNat)
    case atStart => exact ⟨0, a, Nat.zero_le _, rfl, rfl, by simp, ha, 0, rfl⟩
    case round =>
      obtain ⟨k, c, hk, rfl, rfl, hc, hc2, m, rfl⟩ := hrel
      have HC := Lib.hid hc
      clear hc
      by_cases hlt : k < n
      · go_wp2_with fail
        refine (int64MultiplyScale_calls c 10 _ hc2 (by omega) (by omega)).mono ?_
        rintro e w' ⟨c', ok, rfl, ⟨m', rfl⟩, h1, h2⟩
        cases ok
        · clear h1
          go_wp2_with fail
          go_ret2
          exact ⟨_, _, rfl, ⟨m + m', by first | rfl | rw [World.drewN_drewN]⟩, (fun h => by cases h), by unfold i64; omega⟩
        · have H := Lib.hid (h1 rfl)
          clear h1
          go_wp2_with fail
          go_roundw
          case rel => exact ⟨k + 1, c', by omega, by go_num, rfl, by rw [H.out, HC.out, Nat.pow_succ, Int.natCast_mul, Int.mul_assoc]; rfl, h2, m + m', by first | rfl | rw [World.drewN_drewN]⟩
          case measure => simp [intOf]; omega
      · have e : k = n := by omega
        go_wp2_with fail
        go_ret2
        exact ⟨c, _, rfl, ⟨m, rfl⟩, fun _ => by rw [HC.out, e], hc2⟩
def NsRet (a : Int) (n : Nat) (w : World) (e : Ending) (w' : World) : Prop := e = .returned (.tuple #[.int .i64 (up a (10 ^ n)), .bool (!nsF a n)]) ∧ w = w'
set_option maxHeartbeats 800000 in
theorem negativeScale_calls (a : Int) (n : Nat) (w : World) (ha : i64 a) (hn : n ≤ 100000) :
    Calls Tryz.prog 132 #[.int .i64 a, .int .i32 n] w (NsRet a n w) := by
  by_cases h0 : n = 0
  · subst h0
    go_enter Tryz.func132, Tryz.ntmps132
    go_wp2_with fail
    go_ret2
    refine ⟨?_, rfl⟩
    have e : up a (10 ^ 0) = a := by
      have := up_exact (M := a) (p := 1) (by decide)
      simpa using this
    have e2 : nsF a 0 = false := by simp [nsF, Nat.mod_one]
    rw [e, e2]; rfl
  · have t0 : ((n : Int) == 0) = false := by simp; omega
    have s0 := nsV_zero a
    have s1 := nsF_zero a
    go_enter Tryz.func132, Tryz.ntmps132
    go_wp2_with fail
    go_loop [6, 7, 8] (fun v f i => ∃ k : Nat, k ≤ n ∧ i = .int .i32 k ∧ v = .int .i64 (nsV a k) ∧ f = .bool (nsF a k)) (fun _ _ i => n - (intOf i).toNat)
    case atStart => exact ⟨0, Nat.zero_le _, rfl, by rw [s0], by rw [s1]⟩
    case round =>
      obtain ⟨k, hk, rfl, rfl, rfl⟩ := hrel
      clear s0 s1
      by_cases hlt : k < n
      · have g1 : wrap64 ((nsV a k).tdiv 10) = nsV a (k + 1) := by
          rw [nsV_succ]
          have := nsV_le a (k + 1)
          have := nsV_sgn a (k + 1)
          unfold wrap64 i64 at *; omega
        have g2 := nsV_mod a k
        have g3 := nsF_succ a k
        have hz := fun h => ns_done (a := a) (k := k + 1) (n := n) (by omega) h
        generalize hd : decide (a.natAbs / 10 ^ k % 10 ≠ 0) = d at *
        generalize hc : nsV a k = c at *
        generalize hc1 : nsV a (k + 1) = c1 at *
        generalize hf : nsF a k = f at *
        generalize hf1 : nsF a (k + 1) = f1 at *
        have HH := Lib.hid (And.intro hz (And.intro hf1 (And.intro hc1 g3)))
        clear hz hc hf hf1 hc1 hd g3
        by_cases hz1 : c1 = 0
        · subst hz1
          obtain ⟨e1, e2, e3⟩ := HH.out.1 rfl
          have fin : NsRet a n w (.returned (.tuple #[.int .i64 (if a = 0 then 0 else if 0 < a then 1 else -1), .bool (!f1)])) w := ⟨by rw [e1, e2], rfl⟩
          have hg3 := HH.out.2.2.2
          have FIN := Lib.hid (And.intro fin (And.intro e3 hg3))
          clear fin e1 e2 e3 hg3
          by_cases ha0 : a = 0
          · subst ha0
            have hf0 : f1 = false := by have := FIN.out.2.1; cases f1 <;> simp at this ⊢
            subst hf0
            have hg3 := FIN.out.2.2
            cases f <;> cases d <;> (try cases hg3)
            all_goals
              try clear hg3
              go_wp2_with fail
              go_ret2
              exact FIN.out.1
          · have hf0 : f1 = true := FIN.out.2.1.2 ha0
            subst hf0
            have hg3 := FIN.out.2.2
            by_cases hp : 0 < a
            all_goals
              have hr := FIN.out.1
              first | rw [if_neg ha0, if_pos hp] at hr | rw [if_neg ha0, if_neg hp] at hr
              have HR := Lib.hid hr
              cases f <;> cases d <;> (try cases hg3)
              all_goals
                try clear hg3
                clear hr
                go_wp2_with fail
                go_ret2
                exact HR.out
        · have tz : (c1 == 0) = false := by simpa using hz1
          cases f <;> cases d
          all_goals
            go_wp2_with fail
            go_round
            case rel => exact ⟨k + 1, by omega, by go_num, by rw [g1, HH.out.2.2.1], by rw [HH.out.2.1, HH.out.2.2.2]; rfl⟩
            case measure => simp [intOf]; omega
      · obtain rfl : k = n := by omega
        have hend := ns_end a k
        have hF : nsF a k = true → -9223372036854775808 < nsV a k ∧ nsV a k < 9223372036854775807 := fun h => by
          have := nsF_room h
          have := nsV_sgn a k
          unfold i64 at ha; omega
        generalize hc : nsV a k = c at *
        generalize hf : nsF a k = f at *
        have HH := Lib.hid (And.intro hend (And.intro hc hf))
        clear hend hc hf
        cases f
        · clear hF
          go_wp2_with fail
          go_ret2
          exact ⟨by rw [HH.out.1, HH.out.2.2]; rfl, rfl⟩
        · obtain ⟨r1, r2⟩ := hF rfl
          clear hF
          have he := HH.out.1
          rw [if_pos rfl] at he
          by_cases hp : 0 < a
          all_goals
            first | rw [if_pos hp] at he | rw [if_neg hp] at he
            have HE := Lib.hid he
            clear he
            go_wp2_with fail
            go_ret2
            exact ⟨by rw [HE.out, HH.out.2.2]; rfl, rfl⟩
end Go.Proofs.YtcpjclakdpjjfaaGreatDoor
namespace Dg
open Go.Lib
/-- Digits with a sign ahead, read. -/
theorem parse_sg {g P : List UInt8} (hg : g = [] ∨ g = [43] ∨ g = [45]) (h : BD P) (h0 : P ≠ []) (hb : bv P < 2 ^ 63) : parseIntB 64 (g ++ P) = .ok (if g = [45] then -(bv P : Int) else bv P) := by
  have e63 : (2 : Nat) ^ 63 = 9223372036854775808 := by decide
  have h1 : parseUintB 64 P = .ok (bv P) := by
    rw [parseUintB, if_neg h0]
    have := parse_go (2 ^ 64 - 1) (by decide) P 0 h (by omega)
    simpa using this
  rcases hg with rfl | rfl | rfl
  · rw [List.nil_append, parse_digits h h0 hb, if_neg (by decide)]
  · have n1 : ((43 : UInt8).toNat = 43 ∨ (43 : UInt8).toNat = 45) := .inl rfl
    have n2 : ¬ (43 : UInt8).toNat = 45 := by decide
    rw [List.singleton_append]
    simp only [parseIntB, if_pos n1, h1]
    rw [if_neg (fun h => by have := h.2; rw [show 64 - 1 = 63 from rfl] at this; omega), if_neg (fun h => n2 h.1), if_neg n2, if_neg (by decide)]
  · have n1 : ((45 : UInt8).toNat = 43 ∨ (45 : UInt8).toNat = 45) := .inr rfl
    have n2 : (45 : UInt8).toNat = 45 := rfl
    rw [List.singleton_append]
    simp only [parseIntB, if_pos n1, h1]
    rw [if_neg (fun h => h.1 n2), if_neg (fun h => by have := h.2; rw [show 64 - 1 = 63 from rfl] at this; omega), if_pos n2]
    simp
def sg (neg : Bool) : Int := if neg then -1 else 1
theorem sg_abs (neg : Bool) (n p : Nat) : (sg neg * (n : Int) * (p : Int)).natAbs = n * p := by
  rw [Int.natAbs_mul, Int.natAbs_mul, Int.natAbs_natCast, Int.natAbs_natCast]
  cases neg <;> simp [sg]
/-- A number in normal form: its sign, digits and exponent. -/
structure DF (neg : Bool) (l : List Nat) (e V lo hi : Int) : Prop where
  nd : Nd l
  v : V = sg neg * (dv l : Int) * (sc e : Int)
  zero : l = [] → neg = false ∧ e = 0
  ge : l ≠ [] → lo ≤ e
  le : l ≠ [] → e + l.length ≤ hi
  blo : -400 ≤ lo
  bhi : hi ≤ 1000
theorem DF.abs {neg : Bool} {l : List Nat} {e V lo hi : Int} (h : DF neg l e V lo hi) : V.natAbs = dv l * sc e := by rw [h.v, sg_abs]
theorem DF.eq0 {neg : Bool} {l : List Nat} {e V lo hi : Int} (h : DF neg l e V lo hi) : V = 0 ↔ l = [] := by
  constructor
  · intro h0
    have h1 := h.abs
    have h2 := sc_pos e
    by_cases hl : l = []
    · exact hl
    · have := Nat.mul_pos (Nat.pos_of_ne_zero (h.nd.ne hl)) h2
      rw [h0, Int.natAbs_zero] at h1
      omega
  · intro h0
    rw [h.v, h0, dv_nil]; simp
theorem DF.neg {neg : Bool} {l : List Nat} {e V lo hi : Int} (h : DF neg l e V lo hi) : neg = decide (V < 0) := by
  have hp := sc_pos e
  cases neg with
  | false =>
    have : 0 ≤ V := by
      rw [h.v]
      show 0 ≤ (1 : Int) * (dv l : Int) * (sc e : Int)
      rw [Int.one_mul, ← Int.natCast_mul]
      exact Int.natCast_nonneg _
    symm; exact decide_eq_false (by omega)
  | true =>
    have hl : l ≠ [] := fun h0 => by have := (h.zero h0).1; cases this
    have h2 := Nat.mul_pos (Nat.pos_of_ne_zero (h.nd.ne hl)) hp
    have h1 : V = -((dv l * sc e : Nat) : Int) := by
      rw [h.v]
      show (-1 : Int) * (dv l : Int) * (sc e : Int) = _
      rw [Int.mul_assoc, ← Int.natCast_mul, Int.neg_mul, Int.one_mul]
    symm; exact decide_eq_true (by omega)
theorem DF.mono {neg : Bool} {l : List Nat} {e V lo hi lo' hi' : Int} (h : DF neg l e V lo hi) (h1 : lo' ≤ lo) (h2 : hi ≤ hi') (h3 : -400 ≤ lo') (h4 : hi' ≤ 1000) : DF neg l e V lo' hi' :=
  ⟨h.nd, h.v, h.zero, fun hl => Int.le_trans h1 (h.ge hl), fun hl => Int.le_trans (h.le hl) h2, h3, h4⟩
theorem DF.len {neg : Bool} {l : List Nat} {e V lo hi : Int} (h : DF neg l e V lo hi) (h0 : 0 ≤ hi - lo) : (l.length : Int) ≤ hi - lo := by
  by_cases hl : l = []
  · rw [hl]; simpa using h0
  · have := h.ge hl; have := h.le hl; omega
/-- Noughts struck at both ends of a row. -/
theorem DF.strip {neg : Bool} {r l : List Nat} {x hi : Int} {j k : Nat} (hr : r = List.replicate j 0 ++ (l ++ List.replicate k 0)) (hA : AD r) (hl : l ≠ []) (hhd : l.getD 0 0 ≠ 0) (hlt : l.getD (l.length - 1) 0 ≠ 0) (h1 : -400 ≤ x) (h2 : x + r.length ≤ hi) (h3 : hi ≤ 1000) :
    DF neg l (x + k) (sg neg * (dv r : Int) * (sc x : Int)) x hi := by
  have hlen : r.length = j + (l.length + k) := by rw [hr]; simp
  refine ⟨⟨?_, fun _ => hhd, fun _ => hlt⟩, ?_, fun h => (hl h).elim, fun _ => by omega, fun _ => by omega, h1, h3⟩
  · rw [hr] at hA
    exact hA.right.left
  · rw [strip_ends hr, sc_add h1, Int.natCast_mul, Int.natCast_mul, Int.mul_assoc, Int.mul_assoc, Int.mul_assoc, Int.mul_comm ((10 ^ k : Nat) : Int)]
theorem DF.none {neg : Bool} {r : List Nat} {x lo hi : Int} (hr : dv r = 0) (h1 : -400 ≤ lo) (h3 : hi ≤ 1000) : DF false [] 0 (sg neg * (dv r : Int) * (sc x : Int)) lo hi := by
  refine ⟨Nd.nil, by rw [hr, dv_nil]; simp, fun _ => ⟨rfl, rfl⟩, fun h => (h rfl).elim, fun h => (h rfl).elim, h1, h3⟩
/-- A row of digits of number 0 is of noughts; else it has a first one that is none, and a last one. -/
theorem split_ends (r : List Nat) : (∃ j, r = List.replicate j 0) ∨ ∃ j l k, r = List.replicate j 0 ++ (l ++ List.replicate k 0) ∧ l ≠ [] ∧ l.getD 0 0 ≠ 0 ∧ l.getD (l.length - 1) 0 ≠ 0 := by
  have front : ∀ r : List Nat, ∃ j l, r = List.replicate j 0 ++ l ∧ (l ≠ [] → l.getD 0 0 ≠ 0) := by
    intro r
    induction r with
    | nil => exact ⟨0, [], rfl, fun h => (h rfl).elim⟩
    | cons d r ih =>
      by_cases hd : d = 0
      · obtain ⟨j, l, h1, h2⟩ := ih
        exact ⟨j + 1, l, by rw [hd, List.replicate_succ, List.cons_append, ← h1], h2⟩
      · exact ⟨0, d :: r, rfl, fun _ => by simpa using hd⟩
  obtain ⟨j, m, h1, h2⟩ := front r
  obtain ⟨k, t, h3, h4⟩ := front m.reverse
  have h5 : m = t.reverse ++ List.replicate k 0 := by
    have := congrArg List.reverse h3
    rwa [List.reverse_reverse, List.reverse_append, List.reverse_replicate] at this
  by_cases ht : t = []
  · left
    rw [ht, List.reverse_nil, List.nil_append] at h5
    exact ⟨j + k, by rw [h1, h5, List.replicate_append_replicate]⟩
  · right
    have hl : t.reverse ≠ [] := by simpa using ht
    refine ⟨j, t.reverse, k, by rw [h1, h5], hl, ?_, ?_⟩
    · have h6 := h2 (by rw [h5]; simp [hl])
      rw [h5] at h6
      rwa [List.getD_eq_getElem?_getD, List.getElem?_append_left (List.length_pos_iff.2 hl), ← List.getD_eq_getElem?_getD] at h6
    · have h6 := h4 ht
      have h7 : 0 < t.length := List.length_pos_iff.2 ht
      rw [List.getD_eq_getElem?_getD, List.getElem?_reverse (by simp; omega)]
      rw [List.getD_eq_getElem?_getD] at h6
      rw [List.length_reverse, show t.length - 1 - (t.length - 1) = 0 by omega]
      exact h6
/-- Digits at another exponent. -/
theorem DF.at {neg : Bool} {l : List Nat} {e V lo hi : Int} (h : DF neg l e V lo hi) (hl : l ≠ []) {x hi' : Int} (h1 : -400 ≤ x) (h2 : x + l.length ≤ hi') (h3 : hi' ≤ 1000) : DF neg l x (sg neg * (dv l : Int) * (sc x : Int)) x hi' :=
  ⟨h.nd, rfl, fun h0 => (hl h0).elim, fun _ => Int.le_refl _, fun _ => h2, h1, h3⟩
/-- A number is a multiple of a power of ten just if its exponent is not below it. -/
theorem DF.mult {neg : Bool} {l : List Nat} {e V lo hi : Int} (h : DF neg l e V lo hi) {c : Int} (hc : -400 ≤ c) : (∃ m : Int, V = m * sc c) ↔ (l = [] ∨ c ≤ e) := by
  have hlo := h.blo
  constructor
  · rintro ⟨m, hm⟩
    by_cases hl : l = []
    · exact .inl hl
    · right
      rcases Int.lt_or_le e c with hlt | hle
      · exfalso
        have h0 := h.ge hl
        obtain ⟨k, hk⟩ : ∃ k : Nat, c = e + (k + 1 : Nat) := ⟨(c - e - 1).toNat, by omega⟩
        have h1 := h.abs
        rw [hm, Int.natAbs_mul, Int.natAbs_natCast, hk, sc_add (by omega), Nat.pow_succ, Nat.mul_comm (sc e), ← Nat.mul_assoc] at h1
        have h2 := Nat.eq_of_mul_eq_mul_right (sc_pos e) h1
        have h3 := h.nd.mod hl
        rw [← h2, ← Nat.mul_assoc] at h3
        omega
      · exact hle
  · rintro (hl | hle)
    · exact ⟨0, by rw [h.eq0.2 hl, Int.zero_mul]⟩
    · obtain ⟨k, hk⟩ : ∃ k : Nat, e = c + (k : Nat) := ⟨(e - c).toNat, by omega⟩
      refine ⟨sg neg * (dv l : Int) * (10 ^ k : Nat), ?_⟩
      rw [h.v, hk, sc_add hc, Int.natCast_mul, Int.mul_assoc, Int.mul_assoc, Int.mul_assoc, Int.mul_comm (sc c : Int)]
/-- A whole number's digits. -/
theorem DF.whole {neg : Bool} {l : List Nat} {e V lo hi : Int} (h : DF neg l e V lo hi) {n : Int} (hn : V = n * sc 0) (hl : l ≠ []) : 0 ≤ e ∧ l ++ List.replicate e.toNat 0 = dg n.natAbs ∧ neg = decide (n < 0) ∧ n ≠ 0 := by
  have h0 : 0 ≤ e := ((h.mult (c := 0) (by decide)).1 ⟨n, hn⟩).elim (fun h => (hl h).elim) id
  have hp := sc_pos 0
  have hn0 : n ≠ 0 := fun h1 => hl (h.eq0.1 (by rw [hn, h1, Int.zero_mul]))
  refine ⟨h0, ?_, ?_, hn0⟩
  · rw [whole_text h.nd hl]
    have h1 := h.abs
    rw [hn, Int.natAbs_mul, Int.natAbs_natCast, show e = 0 + (e.toNat : Int) by omega, sc_add (by decide), Nat.mul_comm (sc 0), ← Nat.mul_assoc] at h1
    rw [Nat.eq_of_mul_eq_mul_right hp h1]
  · rw [h.neg, hn]
    have hp' : (0 : Int) < sc 0 := by omega
    by_cases hh : n < 0
    · rw [decide_eq_true hh, decide_eq_true (Int.mul_neg_of_neg_of_pos hh hp')]
    · rw [decide_eq_false hh, decide_eq_false (by have := Int.mul_nonneg (show 0 ≤ n by omega) (Int.le_of_lt hp'); omega)]
theorem DF.text {neg : Bool} {l : List Nat} {e V lo hi : Int} (h : DF neg l e V lo hi) {n : Int} (hn : V = n * sc 0) (hl : l ≠ []) : (if neg then [45] else []) ++ dch (l ++ List.replicate e.toNat 0) = itoa n := by
  obtain ⟨-, h1, h2, -⟩ := h.whole hn hl
  rw [h1, h2, itoa_dg]
  by_cases hh : n < 0
  · simp [hh]
  · simp [hh]
end Dg
namespace Dg
open Go.Lib
/-- A suffix, its kind (0 an exponent, 1 by 1024, 2 by thousands) and its power. -/
def Sfx (S : List UInt8) (fn : Nat) (x : Int) : Prop :=
  (fn = 2 ∧ ((S = [] ∧ x = 0) ∨ (S = [109] ∧ x = -3) ∨ (S = [107] ∧ x = 3) ∨ (S = [77] ∧ x = 6) ∨ (S = [71] ∧ x = 9) ∨ (S = [84] ∧ x = 12) ∨ (S = [80] ∧ x = 15) ∨ (S = [69] ∧ x = 18))) ∨
  (fn = 1 ∧ ∃ k : Nat, 1 ≤ k ∧ k ≤ 6 ∧ S = sfxB k ∧ x = (k : Int) * 10) ∨
  (fn = 0 ∧ ∃ c g P, S = c :: (g ++ P) ∧ (c = 69 ∨ c = 101) ∧ (g = [] ∨ g = [43] ∨ g = [45]) ∧ BD P ∧ P ≠ [] ∧ P.length ≤ 3 ∧ x = (if g = [45] then -(bv P : Int) else bv P) ∧ -60 ≤ x ∧ x ≤ 60)
/-- The number of a word. -/
def qV (neg : Bool) (A D : List UInt8) (fn : Nat) (x : Int) : Int :=
  if fn = 1 then sg neg * (bv (A ++ D) : Int) * (2 ^ x.toNat : Nat) * (sc (-(D.length : Int)) : Int) else sg neg * (bv (A ++ D) : Int) * (sc (x - (D.length : Int)) : Int)
/-- What is told in canonical form. -/
def CanOk (fn : Nat) (V : Int) : Prop :=
  V.natAbs ≤ 9223372036854775807 * sc 0 ∧ (∃ m : Int, V = m * sc (-3)) ∧ (fn = 1 → V = 0 ∨ ((∃ m : Int, V = m * sc 0) ∧ V.natAbs ≠ 1000 * sc 0))
theorem CanOk.neg {fn : Nat} {V : Int} (h : CanOk fn V) : CanOk fn (-V) := by
  obtain ⟨h1, ⟨m, h2⟩, h3⟩ := h
  refine ⟨by rw [Int.natAbs_neg]; exact h1, ⟨-m, by rw [h2, Int.neg_mul]⟩, fun hf => ?_⟩
  rcases h3 hf with h4 | ⟨⟨k, h4⟩, h5⟩
  · exact .inl (by rw [h4]; rfl)
  · exact .inr ⟨⟨-k, by rw [h4, Int.neg_mul]⟩, by rw [Int.natAbs_neg]; exact h5⟩
/-- The canonical exponent of what may be told. -/
theorem Cn.fine {V M e : Int} (hc : Cn V M e) (h0 : V ≠ 0) (h1 : V.natAbs ≤ 9223372036854775807 * sc 0) (h2 : ∃ m : Int, V = m * sc (-3)) : -3 ≤ e ∧ e ≤ 18 ∧ M.natAbs < 10 ^ 22 := by
  have h3 := hc.three
  have hlo := hc.lo
  have hM : M ≠ 0 := fun hm => h0 (by rw [hc.v, hm, Int.zero_mul])
  have hV : V.natAbs = M.natAbs * sc e := by rw [hc.v, Int.natAbs_mul, Int.natAbs_natCast]
  have lo : -3 ≤ e := by
    rcases Int.lt_or_le e (-3) with g | g
    · exfalso
      obtain ⟨m, hm⟩ := h2
      obtain ⟨k, hk⟩ : ∃ k : Nat, (-3 : Int) = e + (k + 3 : Nat) := ⟨(-3 - e - 3).toNat, by omega⟩
      have hv := hc.v
      rw [hm, hk, sc_add hlo, Int.natCast_mul, Int.mul_comm (sc e : Int), ← Int.mul_assoc] at hv
      have h5 := Int.eq_of_mul_eq_mul_right (by have := sc_pos e; omega) hv
      apply hc.m
      rw [← h5, Nat.pow_add, Int.natCast_mul]
      show (m * (((10 ^ k : Nat) : Int) * 1000)) % 1000 = 0
      rw [← Int.mul_assoc]
      exact Int.mul_emod_left _ _
    · exact g
  have hi : e ≤ 18 := by
    rcases Int.lt_or_le 18 e with g | g
    · exfalso
      obtain ⟨k, hk⟩ : ∃ k : Nat, e = 0 + (20 + k : Nat) := ⟨(e - 20).toNat, by omega⟩
      rw [hk, sc_add (by decide), Nat.pow_add, Nat.mul_comm (sc 0), ← Nat.mul_assoc] at hV
      have h4 : 1 ≤ M.natAbs := by omega
      have h5 : 1 * (10 ^ 20 * 1) ≤ M.natAbs * (10 ^ 20 * 10 ^ k) := Nat.mul_le_mul h4 (Nat.mul_le_mul_left _ (Nat.pow_pos (by decide)))
      rw [hV] at h1
      have h6 := Nat.le_of_mul_le_mul_right h1 (sc_pos 0)
      have h7 : (10 : Nat) ^ 20 = 100000000000000000000 := by decide
      omega
    · exact g
  refine ⟨lo, hi, ?_⟩
  obtain ⟨k, hk⟩ : ∃ k : Nat, e = -3 + (k : Nat) := ⟨(e + 3).toNat, by omega⟩
  rw [hk, sc_add (by decide), Nat.mul_comm (sc (-3)), ← Nat.mul_assoc] at hV
  have hs : sc 0 = sc (-3) * 10 ^ 3 := by
    have := sc_add (e := -3) (k := 3) (by decide)
    rwa [show (-3 : Int) + (3 : Nat) = 0 by decide] at this
  rw [hV, hs, Nat.mul_comm (sc (-3)), ← Nat.mul_assoc] at h1
  have h6 := Nat.le_of_mul_le_mul_right h1 (sc_pos (-3))
  have h7 : M.natAbs * 1 ≤ M.natAbs * 10 ^ k := Nat.mul_le_mul_left _ (Nat.pow_pos (by decide))
  have h8 : (10 : Nat) ^ 22 = 10000000000000000000000 := by decide
  have h9 : (10 : Nat) ^ 3 = 1000 := by decide
  omega
theorem bd_of {l : List UInt8} (h : (l.all fun c => decide (48 ≤ c.toNat) && decide (c.toNat ≤ 57)) = true) : BD l := fun c hc => by
  have := List.all_eq_true.1 h c hc
  simp only [Bool.and_eq_true, decide_eq_true_eq] at this
  exact this
/-- Noughts ahead. -/
theorem split_zeros (A : List UInt8) : ∃ (z : Nat) (A' : List UInt8), A = List.replicate z 48 ++ A' ∧ (A' ≠ [] → A'.getD 0 0 ≠ 48) := by
  induction A with
  | nil => exact ⟨0, [], rfl, fun h => (h rfl).elim⟩
  | cons c r ih =>
    by_cases hc : c = 48
    · obtain ⟨z, A', h1, h2⟩ := ih
      exact ⟨z + 1, A', by rw [hc, List.replicate_succ, List.cons_append, ← h1], h2⟩
    · exact ⟨0, c :: r, rfl, fun _ => by simpa using hc⟩
theorem bv_zeros (z : Nat) (A : List UInt8) : bv (List.replicate z 48 ++ A) = bv A := by
  unfold bv
  rw [List.map_append, List.map_replicate]
  exact dv_strip z _
end Dg
namespace Go.Proofs.YtcpjclakdpjjfaaGreatDoor
open Go.RowKit Wd Dg
/-- The letters of suffixes. -/
def letters : List UInt8 := [101, 69, 105, 110, 117, 109, 107, 75, 77, 71, 84, 80]
/-- A digit. -/
def Dgt (c : UInt8) : Prop := 48 ≤ c.toNat ∧ c.toNat ≤ 57
theorem mid {s : ByteArray} {X Y Z : List UInt8} (h : s.data.toList = X ++ (Y ++ Z)) {i : Nat} (hi : i < s.size) (h1 : X.length ≤ i) (h2 : i < X.length + Y.length) : (s[i]'hi) ∈ Y := by
  have hl : i < s.data.toList.length := hi
  have e : s[i]'hi = s.data.toList[i]'hl := rfl
  rw [e, List.getElem_of_eq h, List.getElem_append_right h1, List.getElem_append_left (by omega)]
  exact List.getElem_mem _
theorem ext_mid {s : ByteArray} {X Y Z : List UInt8} (h : s.data.toList = X ++ (Y ++ Z)) {a b : Nat} (ha : a = X.length) (hb : b = X.length + Y.length) : (s.extract a b).data.toList = Y := by
  rw [ByteArray.data_extract, Array.toList_extract, h, List.extract_eq_take_drop, ha, hb, List.drop_left, show X.length + Y.length - X.length = Y.length by omega, List.take_left]
/-- Places of a text. -/
structure Pos (s : ByteArray) (p0 p1 p2 p3 p4 p5 : Nat) (neg dot : Bool) : Prop where
  o0 : p0 ≤ 1
  o1 : p0 ≤ p1
  o2 : p1 ≤ p2
  o3 : p2 ≤ p3
  o4 : p3 ≤ p4
  o5 : p4 ≤ p5
  o6 : p5 ≤ s.size
  one : 0 < s.size
  big : s.size ≤ 1000
  s0 : p0 = 0 → neg = false ∧ ∀ h : 0 < s.size, s[0]'h ≠ 43 ∧ s[0]'h ≠ 45
  s1 : p0 = 1 → ∀ h : 0 < s.size, (s[0]'h = 45 ∧ neg = true) ∨ (s[0]'h = 43 ∧ neg = false)
  zero : ∀ i, ∀ h : i < s.size, p0 ≤ i → i < p1 → s[i]'h = 48
  nzero : ∀ h : p1 < s.size, s[p1]'h ≠ 48
  num : ∀ i, ∀ h : i < s.size, p1 ≤ i → i < p2 → Dgt (s[i]'h)
  nnum : ∀ h : p2 < s.size, ¬ Dgt (s[p2]'h) ∧ (dot = false → s[p2]'h ≠ 46)
  point : dot = true → p2 + 1 ≤ p3 ∧ ∀ h : p2 < s.size, s[p2]'h = 46
  none : dot = false → p3 = p2
  den : ∀ i, ∀ h : i < s.size, p2 + 1 ≤ i → i < p3 → Dgt (s[i]'h)
  nden : ∀ h : p3 < s.size, ¬ Dgt (s[p3]'h)
  letter : ∀ i, ∀ h : i < s.size, p3 ≤ i → i < p4 → (s[i]'h) ∈ letters
  nletter : ∀ h : p4 < s.size, (s[p4]'h) ∉ letters ∧ (s[p4]'h).toNat < 128
  sign : ∀ h : p4 < s.size, (p5 = p4 + 1 ∧ ((s[p4]'h) = 43 ∨ (s[p4]'h) = 45)) ∨ (p5 = p4 ∧ (s[p4]'h) ≠ 43 ∧ (s[p4]'h) ≠ 45)
  pow : ∀ i, ∀ h : i < s.size, p5 ≤ i → Dgt (s[i]'h)
theorem Dgt.not_letter {c : UInt8} (h : Dgt c) : c ∉ letters := by
  intro hm
  unfold Dgt at h
  simp only [letters, List.mem_cons, List.not_mem_nil, or_false] at hm
  rcases hm with rfl | rfl | rfl | rfl | rfl | rfl | rfl | rfl | rfl | rfl | rfl | rfl <;> revert h <;> decide
theorem Dgt.ne {c d : UInt8} (h : Dgt c) (hd : d.toNat < 48 ∨ 57 < d.toNat) : c ≠ d := by
  rintro rfl
  unfold Dgt at h
  omega
/-- A text of a sign, digits, a point, digits, letters, a sign, digits. -/
structure Wrd (s : ByteArray) (g A D L G P : List UInt8) (dot : Bool) : Prop where
  tx : s.data.toList = g ++ (A ++ ((if dot then 46 :: D else []) ++ (L ++ (G ++ P))))
  g : g = [] ∨ g = [43] ∨ g = [45]
  a : BD A
  d : BD D
  nd : dot = false → D = []
  ne : A ++ D ≠ []
  l : ∀ c, c ∈ L → c ∈ letters
  gg : G = [] ∨ G = [43] ∨ G = [45]
  p : BD P
  el : L = [] → G = [] ∧ P = []
  big : s.size ≤ 1000
theorem mem_letters {c : UInt8} (h : c ∈ letters) : ¬ Dgt c ∧ c ≠ 46 ∧ c ≠ 43 ∧ c ≠ 45 ∧ c.toNat < 128 := by
  simp only [letters, List.mem_cons, List.not_mem_nil, or_false] at h
  unfold Dgt
  rcases h with rfl | rfl | rfl | rfl | rfl | rfl | rfl | rfl | rfl | rfl | rfl | rfl <;> decide
theorem Wrd.pos {s : ByteArray} {g A D L G P : List UInt8} {dot : Bool} (h : Wrd s g A D L G P dot) {z : Nat} {A' : List UInt8} (hA : A = List.replicate z 48 ++ A') (hz : A' ≠ [] → A'.getD 0 0 ≠ 48) {p0 p1 p2 p3 p4 p5 : Nat} (e0 : p0 = g.length) (e1 : p1 = g.length + z) (e2 : p2 = g.length + A.length)
    (e3 : p3 = p2 + (if dot then 1 + D.length else 0)) (e4 : p4 = p3 + L.length) (e5 : p5 = p4 + G.length) : Pos s p0 p1 p2 p3 p4 p5 (decide (g = [45])) dot := by
  have hlA : A.length = z + A'.length := by rw [hA]; simp
  have hdl : ((if dot then 46 :: D else []) : List UInt8).length = (if dot then 1 + D.length else 0) := by cases dot <;> simp; omega
  have hsz : s.size = g.length + (A.length + ((if dot then 1 + D.length else 0) + (L.length + (G.length + P.length)))) := by
    have : s.size = s.data.toList.length := rfl
    rw [this, h.tx]
    simp only [List.length_append, hdl]
  have hg1 : g.length ≤ 1 := by rcases h.g with e | e | e <;> simp [e]
  have hone : 0 < s.size := by
    have h1 : 0 < (A ++ D).length := List.length_pos_iff.2 h.ne
    rw [List.length_append] at h1
    cases dot with
    | false => rw [h.nd rfl] at h1; simp at h1; omega
    | true => simp at hsz; omega
  -- the texts cut
  have t0 : s.data.toList = [] ++ (g ++ (A ++ ((if dot then 46 :: D else []) ++ (L ++ (G ++ P))))) := h.tx
  have tz : s.data.toList = g ++ (List.replicate z 48 ++ (A' ++ ((if dot then 46 :: D else []) ++ (L ++ (G ++ P))))) := by rw [h.tx, hA]; simp
  have ta : s.data.toList = (g ++ List.replicate z 48) ++ (A' ++ ((if dot then 46 :: D else []) ++ (L ++ (G ++ P)))) := by rw [h.tx, hA]; simp
  have td : s.data.toList = (g ++ A) ++ ((if dot then 46 :: D else []) ++ (L ++ (G ++ P))) := by rw [h.tx]; simp
  have tl : s.data.toList = (g ++ A ++ (if dot then 46 :: D else [])) ++ (L ++ (G ++ P)) := by rw [h.tx]; simp
  have tg : s.data.toList = (g ++ A ++ (if dot then 46 :: D else []) ++ L) ++ (G ++ P) := by rw [h.tx]; simp
  have tp : s.data.toList = (g ++ A ++ (if dot then 46 :: D else []) ++ L ++ G) ++ (P ++ []) := by rw [h.tx]; simp
  have lp3 : (g ++ A ++ (if dot then 46 :: D else [])).length = p3 := by simp only [List.length_append, hdl]; omega
  have lp4 : (g ++ A ++ (if dot then 46 :: D else []) ++ L).length = p4 := by simp only [List.length_append, hdl]; omega
  have lp5 : (g ++ A ++ (if dot then 46 :: D else []) ++ L ++ G).length = p5 := by simp only [List.length_append, hdl]; omega
  have lp2 : (g ++ A).length = p2 := by simp only [List.length_append]; omega
  have lp1 : (g ++ List.replicate z (48 : UInt8)).length = p1 := by simp only [List.length_append, List.length_replicate]; omega
  -- the byte at p3 (behind the number): a letter, or none
  have at3 : ∀ hh : p3 < s.size, (s[p3]'hh) ∈ letters := by
    intro hh
    cases hL : L with
    | nil => obtain ⟨q1, q2⟩ := h.el hL; rw [hL, q1, q2] at hsz; simp at hsz; omega
    | cons c r =>
      have hl : 0 < L.length := by rw [hL]; simp
      exact h.l _ (mid tl hh (by omega) (by omega))
  have at4 : ∀ hh : p4 < s.size, (p5 = p4 + 1 ∧ ((s[p4]'hh) = 43 ∨ (s[p4]'hh) = 45)) ∨ (p5 = p4 ∧ Dgt (s[p4]'hh)) := by
    intro hh
    rcases h.gg with e | e | e
    · rw [e] at tp lp5 e5
      have hP := mid tp hh (by rw [lp5, e5]; simp) (by rw [lp5, e5]; rw [e] at hsz; simp only [List.length_nil] at hsz ⊢; omega)
      exact .inr ⟨by simpa using e5, h.p _ hP⟩
    · have hP := mid tg hh (by omega) (by rw [lp4, e]; simp)
      rw [e] at e5 hP
      exact .inl ⟨by simpa using e5, .inl (by simpa using hP)⟩
    · have hP := mid tg hh (by omega) (by rw [lp4, e]; simp)
      rw [e] at e5 hP
      exact .inl ⟨by simpa using e5, .inr (by simpa using hP)⟩
  refine ⟨by omega, by omega, by omega, by omega, by omega, by omega, by omega, hone, h.big, ?_, ?_, ?_, ?_, ?_, ?_, ?_, ?_, ?_, ?_, ?_, ?_, ?_, ?_⟩
  · intro hp
    have hg : g = [] := List.eq_nil_of_length_eq_zero (by omega)
    refine ⟨by rw [hg]; rfl, fun hh => ?_⟩
    rw [hg] at ta lp1 tz td hsz e1 e2 e0 lp2
    by_cases hA0 : A = []
    · have hD : dot = true := by
        cases hd : dot with
        | true => rfl
        | false => exact (h.ne (by rw [hA0, h.nd hd]; rfl)).elim
      rw [hA0, hD] at td
      have := mid (X := []) (Y := 46 :: D) (Z := L ++ (G ++ P)) (by simpa using td) (i := 0) hh (Nat.zero_le _) (by simp)
      rcases List.mem_cons.1 this with e | e
      · rw [e]; decide
      · exact ⟨Dgt.ne (h.d _ e) (by decide), Dgt.ne (h.d _ e) (by decide)⟩
    · have := mid (X := []) (Y := A) (Z := (if dot then 46 :: D else []) ++ (L ++ (G ++ P))) (by simpa using td) (i := 0) hh (Nat.zero_le _) (by simpa using List.length_pos_iff.2 hA0)
      exact ⟨Dgt.ne (h.a _ this) (by decide), Dgt.ne (h.a _ this) (by decide)⟩
  · intro hp hh
    rcases h.g with e | e | e
    · rw [e] at e0; simp at e0; omega
    · have := mid t0 hh (by simp) (by rw [e]; simp)
      rw [e] at this
      exact .inr ⟨by simpa using this, by rw [e]; decide⟩
    · have := mid t0 hh (by simp) (by rw [e]; simp)
      rw [e] at this
      exact .inl ⟨by simpa using this, by rw [e]; decide⟩
  · intro i hh h1 h2
    have := mid tz hh (by omega) (by simp only [List.length_replicate]; omega)
    exact (List.mem_replicate.1 this).2
  · intro hh
    cases hA' : A' with
    | cons c r =>
      have := mid (X := g ++ List.replicate z 48) (Y := [c]) (Z := r ++ ((if dot then 46 :: D else []) ++ (L ++ (G ++ P)))) (by rw [ta, hA']; simp) hh (by omega) (by rw [lp1]; simp)
      have hc := hz (by rw [hA']; simp)
      rw [hA'] at hc
      rw [List.mem_singleton.1 this]
      simpa using hc
    | nil =>
      have hp : p1 = p2 := by rw [hA'] at hlA; simp at hlA; omega
      by_cases hd : dot = true
      · have := mid (X := g ++ A) (Y := [46]) (Z := D ++ (L ++ (G ++ P))) (by rw [td, hd]; simp) hh (by omega) (by rw [lp2]; simp; omega)
        rw [List.mem_singleton.1 this]; decide
      · have hp3 : p3 = p1 := by rw [e3, if_neg hd]; omega
        have := at3 (by omega)
        have k := (mem_letters this).1
        have e : (s[p3]'(by omega)) = s[p1]'hh := by simp only [hp3]
        rw [e] at k
        intro h48
        rw [h48] at k
        exact k (by unfold Dgt; decide)
  · intro i hh h1 h2
    have hA0 : (s[i]'hh) ∈ A' := mid ta hh (by omega) (by omega)
    exact h.a _ (by rw [hA]; exact List.mem_append_right _ hA0)
  · intro hh
    by_cases hd : dot = true
    · have := mid (X := g ++ A) (Y := [46]) (Z := D ++ (L ++ (G ++ P))) (by rw [td, hd]; simp) hh (by omega) (by rw [lp2]; simp)
      rw [List.mem_singleton.1 this]
      exact ⟨by unfold Dgt; decide, fun h0 => by rw [hd] at h0; cases h0⟩
    · have hp3 : p3 = p2 := by rw [e3, if_neg hd]; omega
      have := at3 (by omega)
      have e : (s[p3]'(by omega)) = s[p2]'hh := by simp only [hp3]
      rw [e] at this
      have k := mem_letters this
      exact ⟨k.1, fun _ => k.2.1⟩
  · intro hd
    refine ⟨by rw [e3, if_pos hd]; omega, fun hh => ?_⟩
    have := mid (X := g ++ A) (Y := [46]) (Z := D ++ (L ++ (G ++ P))) (by rw [td, hd]; simp) hh (by omega) (by rw [lp2]; simp)
    exact List.mem_singleton.1 this
  · intro hd
    rw [e3, hd]; simp
  · intro i hh h1 h2
    have hd : dot = true := by
      cases hd : dot with
      | true => rfl
      | false => rw [hd] at e3; simp at e3; omega
    rw [hd] at td e3
    have := mid (X := g ++ A ++ [46]) (Y := D) (Z := L ++ (G ++ P)) (by rw [td]; simp) hh (by simp only [List.length_append, List.length_cons, List.length_nil] at lp2 ⊢; omega) (by simp only [List.length_append, List.length_cons, List.length_nil, if_true] at lp2 e3 ⊢; omega)
    exact h.d _ this
  · intro hh
    exact (mem_letters (at3 hh)).1
  · intro i hh h1 h2
    exact h.l _ (mid tl hh (by omega) (by omega))
  · intro hh
    rcases at4 hh with ⟨-, e | e⟩ | ⟨-, e⟩
    · rw [e]; decide
    · rw [e]; decide
    · exact ⟨e.not_letter, by have := e.2; omega⟩
  · intro hh
    rcases at4 hh with e | ⟨e1, e⟩
    · exact .inl e
    · exact .inr ⟨e1, e.ne (by decide), e.ne (by decide)⟩
  · intro i hh h1
    exact h.p _ (mid tp hh (by omega) (by rw [lp5]; omega))
end Go.Proofs.YtcpjclakdpjjfaaGreatDoor
namespace Go.Proofs.YtcpjclakdpjjfaaGreatDoor
open Go.RowKit Wd Dg
theorem Mod.iterAt {S : List Nat} {a b : World} (h : Mod S a b) {k : Nat} (hk : a.heap.size ≤ k) (s : ByteArray) (p : Nat) : Mod S a (b.iterAt k s p) :=
  h.step (S' := [k]) ⟨rfl, rfl, rfl, by rw [Lib.iterAt_size]; exact Nat.le_refl _, fun i _ hi => Lib.iterAt_other _ _ _ _ _ (by simpa using hi)⟩ (fun x hx => by rw [List.mem_singleton.1 hx]; exact .inr hk)
theorem Mod.iter {S : List Nat} {a b : World} (h : Mod S a b) (s : ByteArray) (p : Nat) : Mod S a (b.iter s p) := h.alloc _
/-- What is known of the two texts. -/
structure OneB (t : ByteArray) (c : UInt8) (chars : ByteArray) : Prop where
  one : t.size = 1
  at0 : ∃ h : 0 < t.size, t[0]'h = c
  low : c.toNat < 128
  ch : ∀ i (h : i < chars.size), (chars[i]'h).toNat < 128
  big : chars.size ≤ 1000
set_option maxHeartbeats 1600000 in
theorem indexAny_calls (t : ByteArray) (c : UInt8) (chars : ByteArray) (h : OneB t c chars) (w : World) :
    Calls Tryz.prog 138 #[.string t, .string chars] w fun e w' => ((e = .returned (.int .i64 0) ∧ c ∈ chars.data.toList) ∨ (e = .returned (.int .i64 (-1)) ∧ c ∉ chars.data.toList)) ∧ Mod [] w w' := by
  have HX := Lib.hid h
  clear h
  go_enter Tryz.func138, Tryz.ntmps138
  go_wp2_with fail
  go_loopg [] 1 (fun g wx => ∃ i : Nat, i + g = 1 ∧ Mod [] w wx ∧ wx.heap[w.heap.size]? = some (.stringIter t i) ∧ (i = 1 → c ∉ chars.data.toList))
  case atStart => exact ⟨0, rfl, (Mod.refl [] w).iter _ _, World.iter_heap _ _ _, fun h => by omega⟩
  case round =>
    obtain ⟨i, hig, hm, hk, hno⟩ := hrel
    have HM := Lib.hid hm
    have HN := Lib.hid hno
    clear hm hno
    cases gk with
    | zero =>
      obtain rfl : i = 1 := by omega
      have hnx := fun ty => Lib.run_next_end_at (P := Tryz.prog) wr w.heap.size t 1 ty hk (by have := HX.out.one; omega)
      clear hk hig
      go_wp2_with fail
      go_ret
      exact ⟨.inr ⟨rfl, by simpa using HN.out trivial⟩, HM.out⟩
    | succ g =>
      obtain rfl : i = 0 := by omega
      obtain ⟨h0, hc⟩ := HX.out.at0
      have hnx := fun ty => Lib.run_next_ascii_at (P := Tryz.prog) wr w.heap.size t 0 ty hk h0 (by rw [hc]; exact HX.out.low)
      rw [hc] at hnx
      have hw1 := (HM.out.iterAt (Nat.le_refl _) t 1)
      have hk1 := Lib.iterAt_heap wr w.heap.size t 0 1 hk
      clear hk hc h0
      simp only [Nat.zero_add] at hnx
      generalize wr.iterAt w.heap.size t 1 = W at *
      have HW := Lib.hid (And.intro hw1 hk1)
      clear hw1 hk1
      go_wp2_with fail
      go_loopg [8] chars.size (fun g _ wx => ∃ j : Nat, j + g = chars.size ∧ Mod [] w wx ∧ wx.heap[W.heap.size]? = some (.stringIter chars j) ∧ wx.heap[w.heap.size]? = some (.stringIter t 1) ∧ ∀ m (h : m < chars.size), m < j → chars[m]'h ≠ c)
      case atStart =>
        have hlt : w.heap.size < W.heap.size := (Array.getElem?_eq_some_iff.1 HW.out.2).1
        refine ⟨0, by omega, HW.out.1.iter _ _, World.iter_heap _ _ _, ?_, fun m _ h => by omega⟩
        rw [← HW.out.2]
        exact Below.heap_alloc _ _ _ hlt
      case round =>
        obtain ⟨j, hjg, hm, hk, hk0, hno⟩ := hrel
        have HM2 := Lib.hid hm
        have HN2 := Lib.hid hno
        have HK0 := Lib.hid hk0
        clear hm hno hk0
        cases gk with
        | zero =>
          obtain rfl : j = chars.size := by omega
          have hnx := fun ty => Lib.run_next_end_at (P := Tryz.prog) wr W.heap.size chars chars.size ty hk (by omega)
          clear hk hjg
          go_wp2_with fail
          go_roundg g
          case measure => omega
          case rel =>
            refine ⟨1, by omega, HM2.out, HK0.out, fun _ hm => ?_⟩
            obtain ⟨m, hm, e⟩ := List.getElem_of_mem hm
            exact HN2.out m hm hm e
        | succ g' =>
          have hj : j < chars.size := by omega
          have hnx := fun ty => Lib.run_next_ascii_at (P := Tryz.prog) wr W.heap.size chars j ty hk hj (HX.out.ch j hj)
          have hlt : w.heap.size < W.heap.size := (Array.getElem?_eq_some_iff.1 HW.out.2).1
          have hw1 := HM2.out.iterAt (k := W.heap.size) (by omega) chars (j + 1)
          have hk1 := Lib.iterAt_heap wr W.heap.size chars j (j + 1) hk
          have hk2 := (Lib.iterAt_other wr W.heap.size w.heap.size chars (j + 1) (by omega)).trans HK0.out
          generalize wr.iterAt W.heap.size chars (j + 1) = W2 at *
          have HW2 := Lib.hid (And.intro hw1 (And.intro hk1 hk2))
          clear hk hw1 hk1 hk2 hlt
          by_cases he : chars[j]'hj = c
          · have te : ((c.toNat : Int) == ((chars[j]'hj).toNat : Int)) = true := by rw [he]; simp
            have HE := Lib.hid he
            clear he
            go_wp2_with fail
            go_ret
            exact ⟨.inl ⟨rfl, HE.out ▸ List.getElem_mem (l := chars.data.toList) (n := j) hj⟩, HW2.out.1⟩
          · have te : ((c.toNat : Int) == ((chars[j]'hj).toNat : Int)) = false := by
              rw [beq_eq_false_iff_ne]
              intro h
              exact he (UInt8.toNat_inj.1 (by omega))
            have HE := Lib.hid he
            clear he
            go_wp2_with fail
            go_roundg g'
            case measure => omega
            case rel =>
              refine ⟨j + 1, by omega, HW2.out.1, HW2.out.2.1, HW2.out.2.2, fun m h hm => ?_⟩
              rcases Nat.lt_succ_iff_lt_or_eq.1 hm with hm | rfl
              · exact HN2.out m h hm
              · exact HE.out
set_option maxHeartbeats 800000 in
theorem contains_calls (t : ByteArray) (c : UInt8) (chars : ByteArray) (h : OneB t c chars) (w : World) :
    Calls Tryz.prog 100 #[.string t, .string chars] w fun e w' => e = .returned (.bool (decide (c ∈ chars.data.toList))) ∧ Mod [] w w' := by
  have C := Lib.hid (indexAny_calls t c chars h w)
  clear h
  go_enter Tryz.func100, Tryz.ntmps100
  go_wp2_with fail
  refine C.out.mono ?_
  rintro e w1 ⟨⟨rfl, hc⟩ | ⟨rfl, hc⟩, m⟩
  · have HC := Lib.hid (decide_eq_true hc)
    have M := Lib.hid m
    clear hc m C
    go_wp2_with fail
    go_ret
    exact ⟨by rw [HC.out]; rfl, M.out⟩
  · have HC := Lib.hid (decide_eq_false hc)
    have M := Lib.hid m
    clear hc m C
    go_wp2_with fail
    go_ret
    exact ⟨by rw [HC.out]; rfl, M.out⟩
/-- A byte of a text among the letters. -/
theorem containsAny_at (s : ByteArray) (i : Nat) (hi : i < s.size) (hlt : (s[i]'hi).toNat < 128) (w : World) :
    Calls Tryz.prog 100 #[.string (s.extract i (i + 1)), .string ⟨#[101, 69, 105, 110, 117, 109, 107, 75, 77, 71, 84, 80]⟩] w fun e w' => e = .returned (.bool (decide ((s[i]'hi) ∈ letters))) ∧ Mod [] w w' := by
  have hs : (s.extract i (i + 1)).size = 1 := by rw [ByteArray.size_extract]; omega
  refine contains_calls _ _ _ ⟨hs, ⟨by omega, ?_⟩, hlt, ?_, by decide⟩ w
  · rw [ByteArray.getElem_extract]
    rfl
  · intro i h
    have : ∀ i : Fin 12, ((⟨#[101, 69, 105, 110, 117, 109, 107, 75, 77, 71, 84, 80]⟩ : ByteArray)[i.1]'(by exact i.2)).toNat < 128 := by decide
    exact this ⟨i, h⟩
end Go.Proofs.YtcpjclakdpjjfaaGreatDoor
namespace Go.Proofs.YtcpjclakdpjjfaaGreatDoor
open Go.RowKit Wd
/-- Block b is a row of these cells. -/
def Hd (w : World) (b : Nat) (t : TypeId) (cs : Array Value) : Prop := w.heap[b]? = some (.cells cs t (0, 0))
theorem Hd.cell {w : World} {b : Nat} {t : TypeId} {cs : Array Value} (h : Hd w b t cs) {i : Nat} {v : Value} (hv : cs[i]? = some v) : w.cell? ⟨b, i, none⟩ = some v := by
  unfold Hd at h; simp [World.cell?, h, hv]
theorem Hd.free {w : World} {b : Nat} {t : TypeId} {cs : Array Value} (h : Hd w b t cs) (i : Nat) : w.frozen? ⟨b, i, none⟩ = false := by
  unfold Hd at h; simp [World.frozen?, h]
theorem Hd.lt {w : World} {b : Nat} {t : TypeId} {cs : Array Value} (h : Hd w b t cs) : b < w.heap.size := lt_of_block h
theorem Hd.mod {S : List Nat} {w w' : World} {b : Nat} {t : TypeId} {cs : Array Value} (h : Hd w b t cs) (m : Mod S w w') (hb : b ∉ S) : Hd w' b t cs := (m.block b h.lt hb).trans h
theorem Hd.set {w : World} {b : Nat} {t : TypeId} {cs : Array Value} (h : Hd w b t cs) (i : Nat) (u : Value) : Hd (w.setCell ⟨b, i, none⟩ u) b t (cs.setIfInBounds i u) := by
  unfold Hd at *; exact heap_setCell_same h i u
theorem Hd.new (w : World) (t : TypeId) (cs : Array Value) : Hd (w.alloc (.cells cs t)) w.heap.size t cs := by
  show (w.heap.push _)[w.heap.size]? = _
  simp
theorem Mod.grown {w w' : World} {r : Option Nat} (h : w.grownBy w' r) {S : List Nat} (hr : ∀ k, r = some k → k ∈ S) : Mod S w w' :=
  ⟨h.os, h.tape, h.output, h.size, fun k hk hs => h.block k hk (fun e => hs (hr k e.symm))⟩
end Go.Proofs.YtcpjclakdpjjfaaGreatDoor
namespace Dg
open Go.Lib
theorem sg_mod {neg : Bool} {n : Nat} (h : n % 10 ≠ 0) : (sg neg * (n : Int)) % 10 ≠ 0 := by
  cases neg
  · simp only [sg, Bool.false_eq_true, if_false]; omega
  · simp only [sg, if_true]; omega
/-- The canonical digits of a number. -/
theorem DF.cn {neg : Bool} {l : List Nat} {e V lo hi : Int} (h : DF neg l e V lo hi) (hl : l ≠ []) {E : Int} (hE : E % 3 = 0) (h1 : E ≤ e) (h2 : e < E + 3) (h3 : -400 ≤ E) : Cn V (sg neg * (dv l : Int) * (10 ^ (e - E).toNat : Nat)) E := by
  obtain ⟨j, hj⟩ : ∃ j : Nat, e - E = j := ⟨(e - E).toNat, by omega⟩
  have := cn_of (V := V) (a := sg neg * (dv l : Int)) (e := e) (j := j) h.v (sg_mod (h.nd.mod hl)) (by omega) (by rw [show e - (j : Int) = E by omega]; exact hE) (by omega)
  rw [show e - (j : Int) = E by omega] at this
  rw [hj, Int.toNat_natCast, Int.natCast_pow]
  exact this
/-- The same digits at an exponent from 0 on are a whole number. -/
theorem DF.int {neg : Bool} {l : List Nat} {j : Int} (hj : 0 ≤ j) : sg neg * (dv l : Int) * (sc j : Int) = (sg neg * (dv l : Int) * (10 ^ j.toNat : Nat)) * (sc 0 : Int) := by
  obtain ⟨k, rfl⟩ : ∃ k : Nat, j = k := ⟨j.toNat, by omega⟩
  have := sc_add (e := 0) (k := k) (by decide)
  rw [Int.zero_add] at this
  rw [this, Int.toNat_natCast, Int.natCast_mul, Int.mul_assoc, Int.mul_comm (sc 0 : Int)]
  simp only [Int.mul_assoc]
theorem can_dec {fn : Nat} {V M E : Int} (hf : fn ≠ 1) (hc : Cn V M E) (h0 : V ≠ 0) : CanTxt fn V (itoa M ++ if fn = 0 then sfxE E else sfxD E) := .inr (.inl ⟨h0, .inl hf, M, E, hc, rfl⟩)
theorem bn_done {n m : Int} {k : Nat} (h : n = m * 1024 ^ k) (h0 : n ≠ 0) (hn : n.natAbs ≤ 9223372036854775808) (hd : m % 1024 ≠ 0 ∨ k = 6) : Bn n m k := by
  refine ⟨h, ?_⟩
  rcases hd with hd | rfl
  · exact hd
  · intro hm
    have hm0 : m ≠ 0 := fun hm => h0 (by rw [h, hm, Int.zero_mul])
    have h2 : n.natAbs = m.natAbs * 1024 ^ 6 := by rw [h, Int.natAbs_mul, Int.natAbs_pow]; rfl
    rw [show (1024 : Nat) ^ 6 = 1152921504606846976 by decide] at h2
    omega
theorem can_bin {n m : Int} {k : Nat} (hb : Bn n m k) (h0 : n ≠ 0) (h1 : n.natAbs ≠ 1000) : CanTxt 1 (n * sc 0) (itoa m ++ sfxB k) := by
  have hp := sc_pos 0
  have hV0 : n * (sc 0 : Int) ≠ 0 := Int.mul_ne_zero h0 (by omega)
  by_cases hs : n.natAbs < 1024
  · have hk : k = 0 := by
      rcases Nat.eq_zero_or_pos k with h | h
      · exact h
      · exfalso
        have hm0 : m ≠ 0 := fun hm => h0 (by rw [hb.v, hm, Int.zero_mul])
        have h2 : n.natAbs = m.natAbs * 1024 ^ k := by rw [hb.v, Int.natAbs_mul, Int.natAbs_pow]; rfl
        have h3 : (1024 : Nat) ^ 1 ≤ 1024 ^ k := Nat.pow_le_pow_right (by decide) h
        have h4 : 1 * 1024 ^ 1 ≤ m.natAbs * 1024 ^ k := Nat.mul_le_mul (by omega) h3
        omega
    subst hk
    have hm : n = m := by rw [hb.v]; simp
    subst hm
    refine .inr (.inl ⟨hV0, .inr ?_, n, 0, ⟨rfl, rfl, by omega, by decide⟩, ?_⟩)
    · rw [Int.natAbs_mul, Int.natAbs_natCast]
      exact Nat.mul_lt_mul_of_pos_right hs hp
    · rfl
  · exact .inr (.inr ⟨rfl, by rw [Int.natAbs_mul, Int.natAbs_natCast]; exact Nat.mul_le_mul_right _ (by omega), n, m, k, rfl, hb, rfl⟩)
/-- How two numbers stand, by their digits. -/
theorem DF.lt_len {neg neg' : Bool} {l r : List Nat} {e f V W lo hi lo' hi' : Int} (h : DF neg l e V lo hi) (k : DF neg' r f W lo' hi') (hl : l ≠ []) (hr : r ≠ []) (hx : (l.length : Int) + e < r.length + f) : V.natAbs < W.natAbs := by
  have h1 := h.blo; have h2 := h.ge hl; have h3 := k.blo; have h4 := k.ge hr
  rw [h.abs, k.abs]
  unfold sc
  exact larger_len h.nd k.nd hl hr (by omega)
theorem DF.lt_part {neg neg' : Bool} {l r : List Nat} {e f V W lo hi lo' hi' : Int} (h : DF neg l e V lo hi) (k : DF neg' r f W lo' hi') (hl : l ≠ []) (hr : r ≠ []) (hx : (l.length : Int) + e = r.length + f) {i : Nat} (hj : ∀ j, j < i → l.getD j 0 = r.getD j 0) (hd : l.getD i 0 < r.getD i 0) : V.natAbs < W.natAbs := by
  have h1 := h.blo; have h2 := h.ge hl; have h3 := k.blo; have h4 := k.ge hr
  rw [h.abs, k.abs]
  unfold sc
  exact larger_part h.nd.ad k.nd.ad (by omega) hj hd
theorem DF.same {neg neg' : Bool} {l r : List Nat} {e f V W lo hi lo' hi' : Int} (h : DF neg l e V lo hi) (k : DF neg' r f W lo' hi') (hl : l ≠ []) (hr : r ≠ []) (hx : (l.length : Int) + e = r.length + f) (hj : ∀ j, j < l.length ∨ j < r.length → l.getD j 0 = r.getD j 0) : V.natAbs = W.natAbs := by
  have h1 := h.blo; have h2 := h.ge hl; have h3 := k.blo; have h4 := k.ge hr
  rw [h.abs, k.abs]
  unfold sc
  exact larger_same (by omega) hj
end Dg
namespace Go.Proofs.YtcpjclakdpjjfaaGreatDoor
open Go.RowKit Wd Dg
theorem info3 : (Tryz.prog.info? 3).map (fun i => (i.zero, i.size, i.bytes)) = some (some (.int .i64 0), 1, 8) := by kernel_rfl
/-- Digits as cells. -/
def ics (l : List Nat) : List Value := l.map fun d : Nat => Value.int .i64 (d : Int)
theorem ics_len (l : List Nat) : (ics l).length = l.length := by simp [ics]
theorem ics_app (l r : List Nat) : ics (l ++ r) = ics l ++ ics r := by simp [ics]
theorem ics_one {l : List Nat} : ∀ u ∈ ics l, u.oneCell' = true := by
  intro u hu
  obtain ⟨d, -, rfl⟩ := List.mem_map.1 hu
  rfl
/-- Block g is a row of ints. -/
def Bk (w : World) (g : Nat) : Prop := ∃ cur, w.heap[g]? = some (.cells cur 3 (0, 0))
theorem Bk.lt {w : World} {g : Nat} (h : Bk w g) : g < w.heap.size := lt_of_heap h.choose_spec
theorem Bk.mod {S : List Nat} {w w' : World} {g : Nat} (h : Bk w g) (m : Mod S w w') (hg : g ∉ S) : Bk w' g := by
  obtain ⟨cur, h1⟩ := h
  exact ⟨cur, (m.block g (lt_of_heap h1) hg).trans h1⟩
/-- A row of digits as it is read. -/
def Ir (w : World) (v : Value) (l : List Nat) : Prop :=
  (v = .slice none 0 0 ∧ l = []) ∨ ∃ g o c, v = .slice (some ⟨g, o, none⟩) l.length c ∧ l.length ≤ c ∧ c ≤ 9223372036854775807 ∧ Bk w g ∧ ∀ i (hi : i < l.length), w.cell? ⟨g, o + i, none⟩ = some (.int .i64 ((l[i]'hi : Nat) : Int))
theorem Ir.nil (w : World) : Ir w (.slice none 0 0) [] := .inl ⟨rfl, rfl⟩
theorem Ir.mod {w w' : World} {v : Value} {l : List Nat} (h : Ir w v l) (m : Mod [] w w') : Ir w' v l := by
  rcases h with h | ⟨g, o, c, h1, h2, h3, h4, h5⟩
  · exact .inl h
  · exact .inr ⟨g, o, c, h1, h2, h3, h4.mod m (by simp), fun i hi => (m.cell (p := ⟨g, o + i, none⟩) h4.lt (by simp)).trans (h5 i hi)⟩
theorem Ir.mods {S : List Nat} {w w' : World} {v : Value} {l : List Nat} (h : Ir w v l) (m : Mod S w w') (hS : ∀ k, v.ownBlock = some k → k ∉ S) : Ir w' v l := by
  rcases h with h | ⟨g, o, c, rfl, h2, h3, h4, h5⟩
  · exact .inl h
  · exact .inr ⟨g, o, c, rfl, h2, h3, h4.mod m (hS g rfl), fun i hi => (m.cell (p := ⟨g, o + i, none⟩) h4.lt (hS g rfl)).trans (h5 i hi)⟩
theorem Ir.form {w : World} {v : Value} {l : List Nat} (h : Ir w v l) : ∃ a c, v = .slice a l.length c ∧ l.length ≤ c ∧ c ≤ 9223372036854775807 := by
  rcases h with ⟨rfl, rfl⟩ | ⟨g, o, c, h1, h2, h3, -⟩
  · exact ⟨none, 0, rfl, Nat.le_refl _, by decide⟩
  · exact ⟨_, c, h1, h2, h3⟩
theorem Ir.cells {w : World} {v : Value} {l : List Nat} (h : Ir w v l) (hl : l ≠ []) : ∃ g o c, v = .slice (some ⟨g, o, none⟩) l.length c ∧ l.length ≤ c ∧ c ≤ 9223372036854775807 ∧ Bk w g ∧ ∀ i (hi : i < l.length), w.cell? ⟨g, o + i, none⟩ = some (.int .i64 ((l[i]'hi : Nat) : Int)) := by
  rcases h with ⟨-, h⟩ | h
  · exact (hl h).elim
  · exact h
/-- A row of one's own is read. -/
theorem Ir.own {w : World} {base : Nat} {v : Value} {l : List Nat} (h : w.ownsRow base 3 1 v l.length (ics l)) : Ir w v l := by
  obtain ⟨h1, ⟨rfl, h2⟩ | ⟨g, cap, cur, rfl, h3, h4, h5, h6, h7, h8⟩⟩ := h
  · exact .inl ⟨by rfl, List.eq_nil_of_length_eq_zero h2⟩
  · refine .inr ⟨g, 0, cap, rfl, h5, h6, ⟨cur, h4⟩, fun i hi => ?_⟩
    have e : cur[i]? = some (.int .i64 ((l[i]'hi : Nat) : Int)) := by
      have h9 : (cur.toList.take (l.length * 1))[i]? = some (.int .i64 ((l[i]'hi : Nat) : Int)) := by
        rw [h8]; simp [ics, hi]
      rw [List.getElem?_take_of_lt (by omega)] at h9
      simpa using h9
    rw [Nat.zero_add]
    simp [World.cell?, h4, e]
/-- One row behind another. -/
theorem append_ir {w : World} {base : Nat} {v y : Value} {xs ys : List Nat} (hown : w.ownsRow base 3 1 v xs.length (ics xs)) (hy : Ir w y ys) (hb : xs.length + ys.length ≤ 1000000) (hbase : base ≤ w.heap.size) :
    ∃ v' w', (Builtin.append_ #[25, 25] 25 #[v, y]).run Tryz.prog w = .ok v' w' ∧ w'.ownsRow base 3 1 v' (xs ++ ys).length (ics (xs ++ ys)) ∧ w.grownBy w' v.ownBlock := by
  obtain ⟨i, hi, hz⟩ := Option.map_eq_some_iff.1 info3
  simp only [Prod.mk.injEq] at hz
  obtain ⟨h1, h2, h3⟩ := hz
  have hM : maxLen = 9223372036854775807 := rfl
  rcases hy with ⟨rfl, rfl⟩ | ⟨g, o, c, rfl, k2, k3, k4, k5⟩
  · refine ⟨v, w, ?_, by rw [List.append_nil]; exact hown, ⟨rfl, rfl, rfl, Nat.le_refl _, fun _ _ _ => rfl⟩⟩
    obtain ⟨-, ⟨rfl, hn⟩ | ⟨g, cap, cur, rfl, g3, g4, g5, g6, g7, g8⟩⟩ := hown
    · simp [Builtin.append_, run_underlying Tryz.underlying25, sizeOf, typeInfo, hi, Builtin.lenOf, Builtin.firstCells]
    · simp [Builtin.append_, run_underlying Tryz.underlying25, sizeOf, typeInfo, hi, Builtin.lenOf, Builtin.firstCells, loadCells, g5, storeCells]
  · obtain ⟨v', w', r1, r2, r3, -⟩ := run_append_own (P := Tryz.prog) w base 25 25 3 i (.int .i64 0) 1 8 Tryz.underlying25 hi h1 h2 h3 rfl (by decide) v xs.length (ics xs) hown ⟨g, o, none⟩ ys.length c (ics ys) (by rw [ics_len, Nat.mul_one]) (fun j u hj => by
      obtain ⟨hj1, hj2⟩ := List.getElem?_eq_some_iff.1 hj
      rw [ics_len] at hj1
      rw [Addr.add_lit, k5 j hj1, ← hj2]
      simp [ics]) ics_one (by omega) (by omega) hbase
    exact ⟨v', w', r1, by rw [List.length_append, ics_app]; exact r2, r3⟩
/-- A number of the reference's. -/
def dcv (neg : Bool) (sl : Value) (e : Int) : Value := .agg #[.bool neg, sl, .int .i64 e]
def Dc (w : World) (d : Value) (V lo hi : Int) : Prop := ∃ neg sl l e, d = dcv neg sl e ∧ Ir w sl l ∧ DF neg l e V lo hi
theorem Dc.mod {w w' : World} {d : Value} {V lo hi : Int} (h : Dc w d V lo hi) (m : Mod [] w w') : Dc w' d V lo hi := by
  obtain ⟨neg, sl, l, e, h1, h2, h3⟩ := h
  exact ⟨neg, sl, l, e, h1, h2.mod m, h3⟩
theorem Dc.mono {w : World} {d : Value} {V lo hi lo' hi' : Int} (h : Dc w d V lo hi) (h1 : lo' ≤ lo) (h2 : hi ≤ hi') (h3 : -400 ≤ lo') (h4 : hi' ≤ 1000) : Dc w d V lo' hi' := by
  obtain ⟨neg, sl, l, e, k1, k2, k3⟩ := h
  exact ⟨neg, sl, l, e, k1, k2, k3.mono h1 h2 h3 h4⟩
/-- A row's block is none of a block of other cells. -/
theorem Ir.off {w : World} {v : Value} {l : List Nat} (h : Ir w v l) {b : Nat} {t : TypeId} {cs : Array Value} (hd : Hd w b t cs) (ht : t ≠ 3) : ∀ k, v.ownBlock = some k → k ∉ [b] := by
  intro k hk hm
  obtain rfl := List.mem_singleton.1 hm
  rcases h with ⟨rfl, -⟩ | ⟨g, o, c, rfl, -, -, ⟨cur, h4⟩, -⟩
  · cases hk
  · have : g = k := by simpa [Value.ownBlock] using hk
    subst this
    have := hd.symm.trans h4
    simp only [Option.some.injEq, Obj.cells.injEq] at this
    exact ht this.2.1
/-- A number put into a block of its kind. -/
theorem dc_put {w w2 : World} {b : Nat} {z0 z1 z2 : Value} {neg : Bool} {sl : Value} {l : List Nat} {ex V lo hi : Int} (hd : Hd w2 b 27 #[z0, z1, z2]) (hb : w.heap.size ≤ b) (m : Mod [] w w2) (hir : Ir w2 sl l) (hF : DF neg l ex V lo hi) :
    Hd (((w2.setCell ⟨b, 0, none⟩ (.bool neg)).setCell ⟨b, 1, none⟩ sl).setCell ⟨b, 2, none⟩ (.int .i64 ex)) b 27 #[.bool neg, sl, .int .i64 ex] ∧
    Dc (((w2.setCell ⟨b, 0, none⟩ (.bool neg)).setCell ⟨b, 1, none⟩ sl).setCell ⟨b, 2, none⟩ (.int .i64 ex)) (dcv neg sl ex) V lo hi ∧ Mod [] w (((w2.setCell ⟨b, 0, none⟩ (.bool neg)).setCell ⟨b, 1, none⟩ sl).setCell ⟨b, 2, none⟩ (.int .i64 ex)) := by
  have m3 : Mod [b] w2 (((w2.setCell ⟨b, 0, none⟩ (.bool neg)).setCell ⟨b, 1, none⟩ sl).setCell ⟨b, 2, none⟩ (.int .i64 ex)) := (((Mod.refl [b] w2).setCell _ (.inl (by simp))).setCell _ (.inl (by simp))).setCell _ (.inl (by simp))
  refine ⟨?_, ⟨neg, sl, l, ex, rfl, hir.mods m3 (hir.off hd (by decide)), hF⟩, m.step m3 (fun x hx => .inr (by rw [List.mem_singleton.1 hx]; exact hb))⟩
  exact ((hd.set 0 (.bool neg)).set 1 sl).set 2 (.int .i64 ex)
def DcRet (V lo hi : Int) (w : World) (e : Ending) (w' : World) : Prop := ∃ d, e = .returned d ∧ Dc w' d V lo hi ∧ Mod [] w w'
end Go.Proofs.YtcpjclakdpjjfaaGreatDoor
namespace Go.Proofs.YtcpjclakdpjjfaaGreatDoor
open Go.RowKit Wd Dg
set_option maxHeartbeats 1600000 in
theorem decimal_nil (neg : Bool) (x : Int) (w : World) : Calls Tryz.prog 40 #[.bool neg, .slice none 0 0, .int .i64 x] w fun e w' => e = .returned (dcv false (.slice none 0 0) 0) ∧ Mod [] w w' := by
  go_enter Tryz.func40, Tryz.ntmps40
  go_wp2_with fail
  go_loopw [1] (fun t1 wr => t1 = .slice none 0 0 ∧ wr = w.alloc (.cells #[.bool false, .slice none 0 0, .int .i64 0] 27)) (fun _ _ => 0)
  case atStart => exact ⟨rfl, rfl⟩
  case round =>
    obtain ⟨rfl, rfl⟩ := hrel
    go_wp2_with fail
    go_loopw [1, 2] (fun t1 t2 wr => t1 = .slice none 0 0 ∧ t2 = .int .i64 x ∧ wr = w.alloc (.cells #[.bool false, .slice none 0 0, .int .i64 0] 27)) (fun _ _ _ => 0)
    case atStart => exact ⟨rfl, rfl, rfl⟩
    case round =>
      obtain ⟨rfl, rfl, rfl⟩ := hrel
      go_wp2_with fail
      have hd := Hd.new w 27 #[.bool false, .slice none 0 0, .int .i64 0]
      have c0 := hd.cell (i := 0) rfl
      have c1 := hd.cell (i := 1) rfl
      have c2 := hd.cell (i := 2) rfl
      refine bodyPost_ret (v := dcv false (.slice none 0 0) 0) (by unfold dcv; simp [results, Tryz.results40, go_sem, c0, c1, c2]; try rfl) rfl ?_
      exact ⟨rfl, (Mod.refl [] w).alloc _⟩
/-- How long a slice is. -/
def slen : Value → Nat
  | .slice _ n _ => n
  | _ => 0
/-- A row's cells. -/
def Cl (w : World) (g o : Nat) (r : List Nat) : Prop := ∀ i (hi : i < r.length), w.cell? ⟨g, o + i, none⟩ = some (.int .i64 ((r[i]'hi : Nat) : Int))
/-- Where the loops of 'decimal' stand: a row of the block g. -/
def Rw (w : World) (g : Nat) (v : Value) (r : List Nat) : Prop :=
  ∃ o c, v = .slice (some ⟨g, o, none⟩) r.length c ∧ r.length ≤ c ∧ c ≤ 9223372036854775807 ∧ Cl w g o r
theorem Rw.tail {w : World} {g o c d : Nat} {r : List Nat} (h : Cl w g o (d :: r)) (h1 : r.length + 1 ≤ c) (h2 : c ≤ 9223372036854775807) {n : Nat} (hn : n = r.length) : Rw w g (.slice (if c = 1 then some ⟨g, o, none⟩ else some ⟨g, o + 1, none⟩) n (c - 1)) r := by
  subst hn
  by_cases hc : c = 1
  · rw [if_pos hc]
    exact ⟨o, c - 1, rfl, by omega, by omega, fun i hi => by omega⟩
  · rw [if_neg hc]
    refine ⟨o + 1, c - 1, rfl, by omega, by omega, fun i hi => ?_⟩
    have := h (i + 1) (by simpa using hi)
    rw [Nat.add_assoc, Nat.add_comm 1 i]
    simpa using this
set_option maxHeartbeats 1600000 in
theorem decimal_zero (neg : Bool) (x : Int) (v : Value) (g j : Nat) (w : World) (hg : Bk w g) (h : Rw w g v (List.replicate j 0)) : Calls Tryz.prog 40 #[.bool neg, v, .int .i64 x] w fun e w' => e = .returned (dcv false (.slice none 0 0) 0) ∧ Mod [] w w' := by
  have h' : Rw (w.alloc (.cells #[.bool false, .slice none 0 0, .int .i64 0] 27)) g v (List.replicate j 0) := by
    obtain ⟨o, c, h1, h2, h3, h4⟩ := h
    exact ⟨o, c, h1, h2, h3, fun i hi => (((Mod.refl [] w).alloc _).cell (p := ⟨g, o + i, none⟩) hg.lt (by simp)).trans (h4 i hi)⟩
  have H0 := Lib.hid h'
  clear h h' hg
  go_enter Tryz.func40, Tryz.ntmps40
  go_wp2_with fail
  go_loopw [1] (fun t1 wr => ∃ k, Rw (w.alloc (.cells #[.bool false, .slice none 0 0, .int .i64 0] 27)) g t1 (List.replicate k 0) ∧ wr = w.alloc (.cells #[.bool false, .slice none 0 0, .int .i64 0] 27)) (fun t1 _ => slen t1)
  case atStart => exact ⟨j, H0.out, rfl⟩
  case round =>
    obtain ⟨k, ⟨o, c, rfl, hc1, hc2, hcell⟩, rfl⟩ := hrel
    rcases k with _ | k
    · clear hcell
      go_wp2_with fail
      go_loopw [1, 2] (fun t1 t2 wr => t1 = .slice (some ⟨g, o, none⟩) 0 c ∧ t2 = .int .i64 x ∧ wr = w.alloc (.cells #[.bool false, .slice none 0 0, .int .i64 0] 27)) (fun _ _ _ => 0)
      case atStart => exact ⟨rfl, rfl, rfl⟩
      case round =>
        obtain ⟨rfl, rfl, rfl⟩ := hrel
        go_wp2_with fail
        have hd := Hd.new w 27 #[.bool false, .slice none 0 0, .int .i64 0]
        have c0 := hd.cell (i := 0) rfl
        have c1 := hd.cell (i := 1) rfl
        have c2 := hd.cell (i := 2) rfl
        refine bodyPost_ret (v := dcv false (.slice none 0 0) 0) (by unfold dcv; simp [results, Tryz.results40, go_sem, c0, c1, c2]; try rfl) rfl ?_
        exact ⟨rfl, (Mod.refl [] w).alloc _⟩
    · have e0 := hcell 0 (by simp)
      simp only [List.length_replicate] at hc1
      simp at e0
      have HC := Lib.hid (And.intro hcell hc1)
      clear hcell hc1
      simp only [List.length_replicate]
      go_wp2_with fail
      go_roundw
      case rel => exact ⟨k, Rw.tail (d := 0) (r := List.replicate k 0) HC.out.1 (by simpa using HC.out.2) hc2 (by simp), trivial⟩
      case measure => simp [slen]
/-- A number stored in its result's cells. -/
theorem dc_store {w w' : World} {b : Nat} {v' : Value} {l : List Nat} (hd : Hd w' b 27 #[.bool false, .slice none 0 0, .int .i64 0]) (hb : w.heap.size ≤ b) (m : Mod [] w w') (ho : w'.ownsRow (b + 1) 3 1 v' l.length (ics l)) (neg : Bool) (y : Int) :
    Hd (((w'.setCell ⟨b, 0, none⟩ (.bool neg)).setCell ⟨b, 1, none⟩ v').setCell ⟨b, 2, none⟩ (.int .i64 y)) b 27 #[.bool neg, v', .int .i64 y] ∧ Ir (((w'.setCell ⟨b, 0, none⟩ (.bool neg)).setCell ⟨b, 1, none⟩ v').setCell ⟨b, 2, none⟩ (.int .i64 y)) v' l ∧ Mod [] w (((w'.setCell ⟨b, 0, none⟩ (.bool neg)).setCell ⟨b, 1, none⟩ v').setCell ⟨b, 2, none⟩ (.int .i64 y)) := by
  have m3 : Mod [b] w' (((w'.setCell ⟨b, 0, none⟩ (.bool neg)).setCell ⟨b, 1, none⟩ v').setCell ⟨b, 2, none⟩ (.int .i64 y)) := (((Mod.refl [b] w').setCell _ (.inl (by simp))).setCell _ (.inl (by simp))).setCell _ (.inl (by simp))
  refine ⟨((hd.set 0 (.bool neg)).set 1 v').set 2 (.int .i64 y), (Ir.own ho).mods m3 (fun k hk hm => ?_), m.step m3 (fun x hx => .inr (by rw [List.mem_singleton.1 hx]; exact hb))⟩
  obtain ⟨-, ⟨rfl, -⟩ | ⟨g, cap, cur, rfl, h3, -⟩⟩ := ho
  · cases hk
  · have : g = k := by simpa [Value.ownBlock] using hk
    have := List.mem_singleton.1 hm
    omega
theorem own_form {w : World} {base : Nat} {v : Value} {l : List Nat} (h : w.ownsRow base 3 1 v l.length (ics l)) : ∃ a c, v = .slice a l.length c := by
  obtain ⟨-, ⟨rfl, h⟩ | ⟨g, cap, cur, rfl, -⟩⟩ := h
  · exact ⟨none, 0, by rw [h]⟩
  · exact ⟨_, _, rfl⟩
set_option maxRecDepth 10000 in
set_option maxHeartbeats 3200000 in
theorem decimal_some (neg : Bool) (x : Int) (v : Value) (g j k : Nat) (l : List Nat) (w : World) (hg : Bk w g) (h : Rw w g v (List.replicate j 0 ++ (l ++ List.replicate k 0))) (hl : l ≠ []) (hhd : l.getD 0 0 ≠ 0) (hlt : l.getD (l.length - 1) 0 ≠ 0) (hx1 : -1000000 ≤ x) (hx2 : x ≤ 1000000) (hn : j + (l.length + k) ≤ 1000000) :
    Calls Tryz.prog 40 #[.bool neg, v, .int .i64 x] w fun e w' => ∃ sl, e = .returned (dcv neg sl (x + k)) ∧ Ir w' sl l ∧ Mod [] w w' := by
  have h' : Rw (w.alloc (.cells #[.bool false, .slice none 0 0, .int .i64 0] 27)) g v (List.replicate j 0 ++ (l ++ List.replicate k 0)) := by
    obtain ⟨o, c, h1, h2, h3, h4⟩ := h
    exact ⟨o, c, h1, h2, h3, fun i hi => (((Mod.refl [] w).alloc _).cell (p := ⟨g, o + i, none⟩) hg.lt (by simp)).trans (h4 i hi)⟩
  have hl0 : 0 < l.length := List.length_pos_iff.2 hl
  have hd0 : l.getD 0 0 = l[0] := by rw [List.getD_eq_getElem?_getD, List.getElem?_eq_getElem hl0, Option.getD_some]
  have hdl : l.getD (l.length - 1) 0 = l[l.length - 1] := by rw [List.getD_eq_getElem?_getD, List.getElem?_eq_getElem (by omega), Option.getD_some]
  rw [hd0] at hhd
  rw [hdl] at hlt
  have H0 := Lib.hid (And.intro h' (And.intro hhd (And.intro hlt (And.intro hx1 (And.intro hx2 (And.intro hn hg))))))
  clear h h' hg hhd hlt hx1 hx2 hn hd0 hdl
  go_enter Tryz.func40, Tryz.ntmps40
  go_wp2_with fail
  go_loopw [1] (fun t1 wr => ∃ q, Rw (w.alloc (.cells #[.bool false, .slice none 0 0, .int .i64 0] 27)) g t1 (List.replicate q 0 ++ (l ++ List.replicate k 0)) ∧ wr = w.alloc (.cells #[.bool false, .slice none 0 0, .int .i64 0] 27)) (fun t1 _ => slen t1)
  case atStart => exact ⟨j, H0.out.1, rfl⟩
  case round =>
    obtain ⟨q, ⟨o, c, rfl, hc1, hc2, hcell⟩, rfl⟩ := hrel
    rcases q with _ | q
    · have hcl : Cl (w.alloc (.cells #[.bool false, .slice none 0 0, .int .i64 0] 27)) g o (l ++ List.replicate k 0) := hcell
      clear hcell
      have e0 := hcl 0 (by simp; omega)
      rw [List.getElem_append_left hl0, Nat.add_zero] at e0
      have hd : (((l[0] : Nat) : Int) == 0) = false := by have := H0.out.2.1; simp; omega
      obtain ⟨M, hM⟩ : ∃ M, l.length + k = M + 1 := ⟨l.length + k - 1, by omega⟩
      simp only [List.replicate_zero, List.nil_append, List.length_append, List.length_replicate] at hc1 ⊢
      have HC := Lib.hid (And.intro hcl (And.intro hM hc1))
      rw [hM]
      clear hcl hM hc1
      go_wp2_with fail
      go_loopw [1, 2] (fun t1 t2 wr => ∃ (q n : Nat) (y : Int), n = l.length + q ∧ q ≤ k ∧ y = x + ((k - q : Nat) : Int) ∧ t1 = .slice (some ⟨g, o, none⟩) n c ∧ t2 = .int .i64 y ∧ wr = w.alloc (.cells #[.bool false, .slice none 0 0, .int .i64 0] 27)) (fun t1 _ _ => slen t1)
      case atStart => exact ⟨k, M + 1, x, HC.out.2.1.symm, Nat.le_refl _, by rw [Nat.sub_self]; simp, rfl, rfl, rfl⟩
      case round =>
        obtain ⟨q, n, y, hn, hq, hy, rfl, rfl, rfl⟩ := hrel
        rcases Nat.eq_zero_or_pos q with h0 | h0
        · subst h0
          obtain ⟨m, hm⟩ : ∃ m, n = m + 1 := ⟨n - 1, by omega⟩
          subst hm
          have e1 := HC.out.1 m (by simp; omega)
          rw [List.getElem_append_left (by omega)] at e1
          have hd1 : (((l[m]'(by omega) : Nat) : Int) == 0) = false := by
            have := H0.out.2.2.1
            have hm : m = l.length - 1 := by omega
            subst hm
            simp; omega
          generalize (l[m]'(by omega) : Nat) = dm at *
          have HN := Lib.hid (And.intro hn hy)
          have hm2 : m < 1000000 := by have := H0.out.2.2.2.2.2.1; omega
          have hln : l.length = m + 1 := by omega
          have hir : Ir ((w.alloc (.cells #[.bool false, .slice none 0 0, .int .i64 0] 27)).alloc (.cells #[] 3)) (.slice (some ⟨g, o, none⟩) (m + 1) c) l :=
            .inr ⟨g, o, c, by rw [hln], by have := HC.out.2.2; omega, hc2, (H0.out.2.2.2.2.2.2.mod ((Mod.refl [] w).alloc _) (by simp)).mod ((Mod.refl [] _).alloc _) (by simp), fun i hi => by
              have := HC.out.1 i (by simp; omega)
              rw [List.getElem_append_left hi] at this
              rw [← this]
              exact (((Mod.refl [] _).alloc _).cell (p := ⟨g, o + i, none⟩) (by have := H0.out.2.2.2.2.2.2.lt; simp; omega) (by simp))⟩
          have hown : ((w.alloc (.cells #[.bool false, .slice none 0 0, .int .i64 0] 27)).alloc (.cells #[] 3)).ownsRow (w.heap.size + 1) 3 1 (.slice (some ⟨w.heap.size + 1, 0, none⟩) 0 0) ([] : List Nat).length (ics []) := by
            refine ⟨rfl, .inr ⟨w.heap.size + 1, 0, #[], rfl, Nat.le_refl _, ?_, Nat.le_refl _, by decide, rfl, rfl⟩⟩
            have := Hd.new (w.alloc (.cells #[.bool false, .slice none 0 0, .int .i64 0] 27)) 3 #[]
            unfold Hd at this
            rwa [show (w.alloc (.cells #[.bool false, .slice none 0 0, .int .i64 0] 27)).heap.size = w.heap.size + 1 by simp] at this
          obtain ⟨v', w', hrun, ho2, hgr⟩ := append_ir hown hir (by have := H0.out.2.2.2.2.2.1; simp; omega) (by simp)
          rw [List.nil_append] at ho2
          have mA : Mod [w.heap.size + 1] ((w.alloc (.cells #[.bool false, .slice none 0 0, .int .i64 0] 27)).alloc (.cells #[] 3)) w' := Mod.grown hgr (fun k hk => by
            have : w.heap.size + 1 = k := by simpa [Value.ownBlock] using hk
            simp [this])
          have hd : Hd w' w.heap.size 27 #[.bool false, .slice none 0 0, .int .i64 0] := Hd.mod (Hd.mod (Hd.new w 27 _) ((Mod.refl [] _).alloc _) (by simp)) mA (by simp)
          have mw : Mod [] w w' := (((Mod.refl [] w).alloc _).alloc _).step mA (fun x hx => .inr (by rw [List.mem_singleton.1 hx]; omega))
          have k0 := hd.cell (i := 0) rfl
          have k1 := hd.cell (i := 1) rfl
          have k2 := hd.cell (i := 2) rfl
          have kf := hd.free
          obtain ⟨av, cv, rfl⟩ := own_form ho2
          have FS := Lib.hid (dc_store hd (Nat.le_refl _) mw ho2 neg y)
          clear hn hy hq hir hown ho2 hgr hln hd mw mA
          go_wp2_with (at_builtin; refine Lib.wpList_append_run _ rfl _ _ _ _ rfl _ _ rfl rfl _ _ hrun ?_)
          obtain ⟨hd, hir, hmd⟩ := FS.out
          have c0 := hd.cell (i := 0) rfl
          have c1 := hd.cell (i := 1) rfl
          have c2 := hd.cell (i := 2) rfl
          refine bodyPost_ret (v := dcv neg (.slice av l.length cv) y) (by unfold dcv; simp [results, Tryz.results40, go_sem, c0, c1, c2]; try rfl) rfl ?_
          exact ⟨_, by rw [HN.out.2, Nat.sub_zero], hir, hmd⟩
        · obtain ⟨p, rfl⟩ : ∃ p, q = p + 1 := ⟨q - 1, by omega⟩
          obtain ⟨m, hm⟩ : ∃ m, n = m + 1 := ⟨n - 1, by omega⟩
          subst hm
          have e1 := HC.out.1 m (by simp; omega)
          rw [List.getElem_append_right (by omega), List.getElem_replicate] at e1
          have hm2 : m < 1000000 := by have := H0.out.2.2.2.2.2.1; omega
          have hy2 : y < 3000000 ∧ -3000000 < y := by have := H0.out.2.2.2.1; have := H0.out.2.2.2.2.1; have := H0.out.2.2.2.2.2.1; omega
          have t1 : wrap64 (y + 1) = y + 1 := by unfold wrap64; omega
          have HN := Lib.hid (And.intro hn (And.intro hy hq))
          have hmc : m ≤ c := by have := HC.out.2.1; have := HC.out.2.2; omega
          clear hn hy hq
          go_wp2_with fail
          go_roundw
          case rel => exact ⟨p, m, y + 1, by have := HN.out.1; omega, by have := HN.out.2.2; omega, by have := HN.out.2; omega, rfl, rfl, trivial⟩
          case measure => simp [slen]
    · have e0 := hcell 0 (by simp; omega)
      simp only [List.length_append, List.length_replicate] at hc1
      simp [List.replicate_succ] at e0
      have HC := Lib.hid (And.intro hcell hc1)
      clear hcell hc1
      obtain ⟨n, hn⟩ : ∃ n, n = q + (l.length + k) := ⟨_, rfl⟩
      have hn1 : (List.replicate (q + 1) 0 ++ (l ++ List.replicate k 0)).length = n + 1 := by simp; omega
      rw [hn1]
      have HN := Lib.hid hn
      clear hn hn1
      go_wp2_with fail
      go_roundw
      case rel => exact ⟨q, Rw.tail (d := 0) (r := List.replicate q 0 ++ (l ++ List.replicate k 0)) HC.out.1 (by have := HC.out.2; simp; omega) hc2 (by rw [HN.out]; simp), trivial⟩
      case measure => simp [slen]
/-- A row of digits at an exponent, as a number. -/
theorem decimal_calls (neg : Bool) (x : Int) (v : Value) (r : List Nat) (w : World) (h : Ir w v r) (hA : AD r) (h1 : -400 ≤ x) {hi : Int} (h2 : x + r.length ≤ hi) (h3 : hi ≤ 1000) :
    Calls Tryz.prog 40 #[.bool neg, v, .int .i64 x] w (DcRet (sg neg * (dv r : Int) * (sc x : Int)) x hi w) := by
  rcases h with ⟨rfl, rfl⟩ | ⟨g, o, c, rfl, hc1, hc2, hg, hcl⟩
  · refine (decimal_nil neg x w).mono ?_
    rintro e w' ⟨rfl, m⟩
    exact ⟨_, rfl, ⟨false, _, [], 0, rfl, Ir.nil _, DF.none rfl h1 h3⟩, m⟩
  · have hrw : Rw w g (.slice (some ⟨g, o, none⟩) r.length c) r := ⟨o, c, rfl, hc1, hc2, hcl⟩
    rcases split_ends r with ⟨j, hr⟩ | ⟨j, l, k, hr, hl, hhd, hlt⟩
    · refine (decimal_zero neg x _ g j w hg (hr ▸ hrw)).mono ?_
      rintro e w' ⟨rfl, m⟩
      exact ⟨_, rfl, ⟨false, _, [], 0, rfl, Ir.nil _, DF.none (by rw [hr, dv_zeros]) h1 h3⟩, m⟩
    · have hlen : r.length = j + (l.length + k) := by rw [hr]; simp
      refine (decimal_some neg x _ g j k l w hg (hr ▸ hrw) hl hhd hlt (by omega) (by omega) (by omega)).mono ?_
      rintro e w' ⟨sl, rfl, hir, m⟩
      exact ⟨_, rfl, ⟨neg, sl, l, x + k, rfl, hir, DF.strip hr hA hl hhd hlt h1 h2 h3⟩, m⟩
end Go.Proofs.YtcpjclakdpjjfaaGreatDoor
