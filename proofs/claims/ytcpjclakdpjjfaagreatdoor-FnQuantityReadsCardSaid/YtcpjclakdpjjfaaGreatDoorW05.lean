/- The builtins copy and clear on rows of words; slices of them. Decimal digits, plain. Numbers by their digits, plain: places from behind, sums, comparison, powers. Products and powers of ten of numbers by their digits, plain. Numerals, scales, canonical forms, plain. Steps of the reference's loops, plain. int64's products, rounding away from 0, plain. The canonical text of a number, plain. Division by powers of ten, rounded away from 0: the loop of the package, plain. -/
import Derived.Test.YtcpjclakdpjjfaaGreatDoorW01
import Derived.Lib.SliceRun
import Derived.LaidEqlPtr
import Derived.Lib.ItoaNum
import Derived.Lib.ParseIntB
namespace Go.Proofs.YtcpjclakdpjjfaaGreatDoor
open Go.RowKit Wd
theorem wc_size (ws : List Nat) : (wc ws).size = ws.length := by simp [wc]
theorem info177 : (Tryz.prog.info? 177).map (·.size) = some 1 := by kernel_rfl
theorem wat_seg {xs : List Nat} {o n j : Nat} (hj : j < n) (h : o + n ≤ xs.length) : (seg xs o n)[j]? = some (wat xs (o + j)) := by
  simp only [seg]
  rw [List.getElem?_take_of_lt hj, List.getElem?_drop, List.getElem?_eq_getElem (by omega), wat_eq (by omega)]
/-- copy(z, x), z and x of words. -/
theorem copy_words (w : World) (dT sT bz oz nz cz bx ox nx cx k : Nat) (zs xs : List Nat) (hd : Tryz.prog.underlying dT = some (.slice 177)) (hz : Blk w bz zs) (hx : Blk w bx xs)
    (hk : k = Nat.min nx nz) (hzl : oz + k ≤ zs.length) (hxl : ox + k ≤ xs.length) :
    ∃ w1, (Builtin.copy_ #[dT, sT] 3 #[.slice (some ⟨bz, oz, none⟩) nz cz, .slice (some ⟨bx, ox, none⟩) nx cx]).run Tryz.prog w = .ok (.int .i64 (k : Nat)) w1 ∧ Mod [bz] w w1 ∧ Blk w1 bz (spl zs oz (seg xs ox k)) := by
  have hl : (seg xs ox k).length = k := seg_length hxl
  have key := run_copy_row (P := Tryz.prog) w dT sT 3 177 bz oz nz cz ⟨bx, ox, none⟩ nx cx (wc zs) 177 ((seg xs ox k).map fun n : Nat => Value.int .u64 (n : Int)) hd info177 hz.heap (by rw [List.length_map, hl]; exact hk)
    (fun j v hj => by
      have hjk : j < k := by
        rcases Nat.lt_or_ge j k with h | h
        · exact h
        · rw [List.getElem?_eq_none (by simp [hl]; exact h)] at hj; cases hj
      rw [List.getElem?_map, wat_seg hjk hxl] at hj
      cases hj
      have hadd : (⟨bx, ox, none⟩ : Addr).add j = ⟨bx, ox + j, none⟩ := by unfold Addr.add; split <;> simp_all
      rw [hadd]; exact hx.cell (by omega)) (by simp [hl, wc_size]; omega) (fun v hv => by
      obtain ⟨n, _, rfl⟩ := List.mem_map.1 hv; rfl)
  rw [List.length_map, hl] at key
  refine ⟨_, key, ⟨rfl, rfl, rfl, by simp [World.setRow], fun i hi hne => setRow_other _ _ _ _ (by simpa using hne)⟩, ?_, ?_, by rw [spl_length (by rw [hl]; exact hzl)]; exact hz.cap⟩
  · rw [setRow_heap _ _ _ _ _ _ hz.heap]
    simp [wc, spl, hl, List.map_take, List.map_drop]
  · simp only [spl]
    exact WL_append.2 ⟨WL_append.2 ⟨WL_take hz.wl _, WL_seg hx.wl _ _⟩, WL_drop hz.wl _⟩
theorem copy_none (w : World) (dT sT : TypeId) (d a : Option Addr) (nz cz nx cx : Nat) (hd : Tryz.prog.underlying dT = some (.slice 177)) (h : Nat.min nx nz = 0) :
    (Builtin.copy_ #[dT, sT] 3 #[.slice d nz cz, .slice a nx cx]).run Tryz.prog w = .ok (.int .i64 0) w := run_copy_none w dT sT 3 177 d a nz cz nx cx hd info177 h
theorem setCells_words (b : Nat) : ∀ (n o : Nat) (zs : List Nat) (w : World), Blk w b zs → o + n ≤ zs.length →
    Mod [b] w (w.setCells b o (List.replicate n (.int .u64 0))) ∧ Blk (w.setCells b o (List.replicate n (.int .u64 0))) b (spl zs o (List.replicate n 0))
  | 0, o, zs, w, h, _ => ⟨Mod.refl _ _, by rw [List.replicate_zero, List.replicate_zero, spl_nil]; exact h⟩
  | n + 1, o, zs, w, h, hl => by
    have h1 := h.set o (x := 0) B_pos
    obtain ⟨m, k⟩ := setCells_words b n (o + 1) (zs.set o 0) _ h1 (by simp; omega)
    refine ⟨((Mod.refl [b] w).setCell (p := ⟨b, o, none⟩) _ (.inl (by simp))).trans m, ?_⟩
    have e : spl (zs.set o 0) (o + 1) (List.replicate n 0) = spl zs o (List.replicate (n + 1) 0) := by
      simp only [spl, List.length_replicate, List.replicate_succ]
      rw [List.take_set, List.drop_set_of_lt (by omega), List.take_succ_eq_append_getElem (by omega), List.set_append_right _ _ (by simp; omega)]
      simp [Nat.min_eq_left (show o ≤ zs.length by omega), Nat.add_assoc, Nat.add_comm 1 n]
    rw [← e]; exact k
/-- clear(z), z of words. -/
theorem clear_words (w : World) (t b o n c : Nat) (zs : List Nat) (ht : Tryz.prog.underlying t = some (.slice 177)) (hz : Blk w b zs) (hn : 0 < n) (hl : o + n ≤ zs.length) :
    ∃ w1, (Builtin.clear_ #[t] 0 #[.slice (some ⟨b, o, none⟩) n c]).run Tryz.prog w = .ok (.tuple #[]) w1 ∧ Mod [b] w w1 ∧ Blk w1 b (spl zs o (List.replicate n 0)) := by
  obtain ⟨m, k⟩ := setCells_words b n o zs w hz hl
  exact ⟨_, Lib.run_clear_slice w t 177 0 (.int .u64 0) ht (fun _ => by kernel_rfl) rfl rfl b o n c hn (fun j hj => by rw [hz.cell (by omega)]; rfl) (fun j _ => hz.free _), m, k⟩
/-- Two pointers held against each other: by their addresses. -/
theorem ptr_eql (w : World) {tp te : TypeId} {j : TypeInfo} {a b : Addr} {ca cb : Array Value} {ta tb : TypeId} (hp : Tryz.prog.underlying tp = some (.pointer te)) (hte : Tryz.prog.info? te = some j) (hsz : j.size ≠ 0)
    (ha : w.heap[a.block]? = some (.cells ca ta (0, 0))) (hb : w.heap[b.block]? = some (.cells cb tb (0, 0))) :
    (binOp .eql tp (.pointer (some a)) (.pointer (some b))).run Tryz.prog w = .ok (.bool (decide (a = b))) w := by
  by_cases e : a = b
  · subst e; rw [run_eql_ptr_same w a hp hte]; simp
  · rw [run_eql_ptr_other w hp hte hsz e ha hb]; simp [e]
theorem ptr_neq (w : World) {tp te : TypeId} {j : TypeInfo} {a b : Addr} {ca cb : Array Value} {ta tb : TypeId} (hp : Tryz.prog.underlying tp = some (.pointer te)) (hte : Tryz.prog.info? te = some j) (hsz : j.size ≠ 0)
    (ha : w.heap[a.block]? = some (.cells ca ta (0, 0))) (hb : w.heap[b.block]? = some (.cells cb tb (0, 0))) :
    (binOp .neq tp (.pointer (some a)) (.pointer (some b))).run Tryz.prog w = .ok (.bool (!decide (a = b))) w := by
  have h : ∀ d : Nat, (Op.equalIn (d + 1) tp (.pointer (some a)) (.pointer (some b))).run Tryz.prog w = .ok (decide (a = b)) w := fun d => by
    by_cases e : a = b
    · subst e; simp [Op.equalIn, run_underlying hp, sizeOf, typeInfo, hte, run_sameAddr_same]
    · simp [Op.equalIn, run_underlying hp, sizeOf, typeInfo, hte, hsz, run_sameAddr_other w e ha hb, e]
  simp only [binOp]
  simp [Op.equal, Op.maxDepth, h 9999]
theorem info177' : ∃ j, Tryz.prog.info? 177 = some j ∧ j.size ≠ 0 := by
  obtain ⟨j, hj, hs⟩ := Option.map_eq_some_iff.1 info177
  exact ⟨j, hj, by rw [hs]; decide⟩
/-- Two pointers to words. -/
theorem wptr_eql {w : World} {b o b' o' : Nat} {xs ys : List Nat} (h : Blk w b xs) (h' : Blk w b' ys) :
    (binOp .eql 264 (.pointer (some ⟨b, o, none⟩)) (.pointer (some ⟨b', o', none⟩))).run Tryz.prog w = .ok (.bool (decide (b = b' ∧ o = o'))) w := by
  obtain ⟨j, hj, hs⟩ := info177'
  rw [ptr_eql w Tryz.underlying264 hj hs h.heap h'.heap]
  simp
theorem wptr_neq {w : World} {b o b' o' : Nat} {xs ys : List Nat} (h : Blk w b xs) (h' : Blk w b' ys) :
    (binOp .neq 264 (.pointer (some ⟨b, o, none⟩)) (.pointer (some ⟨b', o', none⟩))).run Tryz.prog w = .ok (.bool (!decide (b = b' ∧ o = o'))) w := by
  obtain ⟨j, hj, hs⟩ := info177'
  rw [ptr_neq w Tryz.underlying264 hj hs h.heap h'.heap]
  simp
end Go.Proofs.YtcpjclakdpjjfaaGreatDoor
namespace Dg
/-- The number of a list of digits, the most significant one first. -/
def dv (l : List Nat) : Nat := l.foldl (fun a d => 10 * a + d) 0
theorem dv_nil : dv [] = 0 := rfl
theorem fold_app (l : List Nat) (a : Nat) : l.foldl (fun a d => 10 * a + d) a = a * 10 ^ l.length + dv l := by
  unfold dv
  induction l generalizing a with
  | nil => simp
  | cons d l ih =>
    simp only [List.foldl_cons, List.length_cons]
    rw [ih, ih (10 * 0 + d), Nat.pow_succ]
    generalize (10 : Nat) ^ l.length = p
    generalize List.foldl (fun a d => 10 * a + d) 0 l = r
    rw [Nat.add_mul, Nat.add_mul, Nat.mul_zero, Nat.zero_mul, Nat.zero_add, ← Nat.add_assoc]
    congr 2
    rw [Nat.mul_comm 10 a, Nat.mul_assoc, Nat.mul_comm 10 p]
theorem dv_append (l r : List Nat) : dv (l ++ r) = dv l * 10 ^ r.length + dv r := by
  rw [dv, List.foldl_append]; exact fold_app r _
theorem dv_snoc (l : List Nat) (d : Nat) : dv (l ++ [d]) = 10 * dv l + d := by
  rw [dv_append]; simp [dv, Nat.mul_comm]
theorem dv_cons (d : Nat) (l : List Nat) : dv (d :: l) = d * 10 ^ l.length + dv l := by
  have := dv_append [d] l
  simpa [dv] using this
theorem dv_zero (l : List Nat) : dv (0 :: l) = dv l := by rw [dv_cons]; simp
theorem dv_zeros (n : Nat) : dv (List.replicate n 0) = 0 := by
  induction n with
  | zero => rfl
  | succ n ih => rw [List.replicate_succ, dv_zero, ih]
theorem dv_pad (l : List Nat) (n : Nat) : dv (l ++ List.replicate n 0) = dv l * 10 ^ n := by
  rw [dv_append, dv_zeros, List.length_replicate]; rfl
/-- All are digits. -/
def AD (l : List Nat) : Prop := ∀ d, d ∈ l → d ≤ 9
theorem AD.nil : AD [] := fun _ h => by cases h
theorem AD.append {l r : List Nat} (h : AD l) (k : AD r) : AD (l ++ r) := fun d hd => (List.mem_append.1 hd).elim (h d) (k d)
theorem AD.cons {d : Nat} {r : List Nat} (h : d ≤ 9) (k : AD r) : AD (d :: r) := fun x hd => (List.mem_cons.1 hd).elim (fun e => e ▸ h) (k x)
theorem AD.tail {d : Nat} {r : List Nat} (h : AD (d :: r)) : AD r := fun x hx => h x (List.mem_cons_of_mem _ hx)
theorem AD.head {d : Nat} {r : List Nat} (h : AD (d :: r)) : d ≤ 9 := h d (List.mem_cons_self ..)
theorem AD.left {l r : List Nat} (h : AD (l ++ r)) : AD l := fun x hx => h x (List.mem_append_left _ hx)
theorem AD.right {l r : List Nat} (h : AD (l ++ r)) : AD r := fun x hx => h x (List.mem_append_right _ hx)
theorem AD.take {l : List Nat} (h : AD l) (n : Nat) : AD (l.take n) := fun x hx => h x (List.mem_of_mem_take hx)
theorem AD.drop {l : List Nat} (h : AD l) (n : Nat) : AD (l.drop n) := fun x hx => h x (List.mem_of_mem_drop hx)
theorem AD.zeros (n : Nat) : AD (List.replicate n 0) := fun x hx => by rw [List.eq_of_mem_replicate hx]; omega
theorem dv_lt {l : List Nat} (h : AD l) : dv l < 10 ^ l.length := by
  induction l with
  | nil => simp [dv]
  | cons d l ih =>
    rw [dv_cons, List.length_cons, Nat.pow_succ]
    have h1 := ih h.tail
    have h2 := h.head
    generalize (10 : Nat) ^ l.length = p at *
    have : d * p ≤ 9 * p := Nat.mul_le_mul_right _ h2
    omega
theorem dv_ge {d : Nat} {l : List Nat} (_h : d ≠ 0) : 10 ^ l.length ≤ dv (d :: l) := by
  rw [dv_cons]
  have : 1 * 10 ^ l.length ≤ d * 10 ^ l.length := Nat.mul_le_mul_right _ (by omega)
  omega
/-- Two rows of digits of one length and one number are one. -/
theorem dv_inj {l r : List Nat} (hl : AD l) (hr : AD r) (hn : l.length = r.length) (h : dv l = dv r) : l = r := by
  induction l generalizing r with
  | nil => cases r with
    | nil => rfl
    | cons d r => simp at hn
  | cons d l ih => cases r with
    | nil => simp at hn
    | cons e r =>
      rw [dv_cons, dv_cons] at h
      have hn' : l.length = r.length := by simpa using hn
      rw [hn'] at h
      have h1 := dv_lt hl.tail
      have h2 := dv_lt hr.tail
      rw [hn'] at h1
      have hp : 0 < 10 ^ r.length := Nat.pow_pos (by decide)
      generalize (10 : Nat) ^ r.length = p at *
      have q1 : (d * p + dv l) / p = d := by rw [Nat.mul_comm, Nat.mul_add_div hp, Nat.div_eq_of_lt h1]; rfl
      have q2 : (e * p + dv r) / p = e := by rw [Nat.mul_comm, Nat.mul_add_div hp, Nat.div_eq_of_lt h2]; rfl
      have : d = e := by rw [← q1, h, q2]
      subst this
      rw [ih hl.tail hr.tail hn' (by omega)]
/-- The digits of a number, the first one not 0; of 0 a nought. -/
def dg (n : Nat) : List Nat := if _h : n < 10 then [n] else dg (n / 10) ++ [n % 10]
theorem dg_small {n : Nat} (h : n < 10) : dg n = [n] := by rw [dg]; simp [h]
theorem dg_big {n : Nat} (h : 10 ≤ n) : dg n = dg (n / 10) ++ [n % 10] := by rw [dg]; simp [show ¬ n < 10 by omega]
theorem dv_dg (n : Nat) : dv (dg n) = n := by
  induction n using Nat.strongRecOn with
  | _ n ih =>
    rcases Nat.lt_or_ge n 10 with h | h
    · rw [dg_small h]; simp [dv]
    · rw [dg_big h, dv_snoc, ih (n / 10) (by omega)]; omega
theorem dg_AD (n : Nat) : AD (dg n) := by
  induction n using Nat.strongRecOn with
  | _ n ih =>
    rcases Nat.lt_or_ge n 10 with h | h
    · rw [dg_small h]; exact AD.cons (by omega) AD.nil
    · rw [dg_big h]; exact (ih (n / 10) (by omega)).append (AD.cons (by omega) AD.nil)
theorem dg_head {n : Nat} (h0 : n ≠ 0) : ∃ d r, dg n = d :: r ∧ d ≠ 0 := by
  induction n using Nat.strongRecOn with
  | _ n ih =>
    rcases Nat.lt_or_ge n 10 with h | h
    · exact ⟨n, [], dg_small h, h0⟩
    · obtain ⟨d, r, e, hd⟩ := ih (n / 10) (by omega) (by omega)
      exact ⟨d, r ++ [n % 10], by rw [dg_big h, e]; rfl, hd⟩
theorem pow_lt_inj {a b n : Nat} (h1 : 10 ^ a ≤ n) (h2 : n < 10 ^ b) : a < b := by
  rcases Nat.lt_or_ge a b with h | h
  · exact h
  · have := Nat.pow_le_pow_right (show 0 < 10 by decide) h; omega
/-- A row of digits, the first one not 0, is the row of its number. -/
theorem dg_unique {d : Nat} {r : List Nat} (h0 : d ≠ 0) (h : AD (d :: r)) : d :: r = dg (dv (d :: r)) := by
  have hn : dv (d :: r) ≠ 0 := by have := dv_ge (l := r) h0; have := Nat.pow_pos (n := r.length) (show 0 < 10 by decide); omega
  obtain ⟨d', r', e, hd'⟩ := dg_head hn
  rw [e]
  have hA : AD (d' :: r') := e ▸ dg_AD _
  have hv : dv (d' :: r') = dv (d :: r) := by rw [← e, dv_dg]
  refine dv_inj h hA ?_ hv.symm
  have a1 := dv_ge (l := r) h0
  have a2 := dv_lt h
  have b1 := dv_ge (l := r') hd'
  have b2 := dv_lt hA
  rw [hv] at b1 b2
  have c1 := pow_lt_inj a1 b2
  have c2 := pow_lt_inj b1 a2
  simp only [List.length_cons] at *
  omega
theorem dg_length_le {n k : Nat} (hk : 0 < k) (h : n < 10 ^ k) : (dg n).length ≤ k := by
  by_cases h0 : n = 0
  · subst h0; rw [dg_small (by omega)]; simp; omega
  · obtain ⟨d, r, e, hd⟩ := dg_head h0
    have := dv_ge (l := r) hd
    rw [← e, dv_dg] at this
    rw [e, List.length_cons]
    exact pow_lt_inj this h
/-- A row read with noughts ahead struck. -/
theorem dv_strip (k : Nat) (l : List Nat) : dv (List.replicate k 0 ++ l) = dv l := by
  rw [dv_append, dv_zeros, Nat.zero_mul, Nat.zero_add]
theorem dv_set {l : List Nat} {i x : Nat} (h : i < l.length) : dv (l.set i (l[i] + x)) = dv l + x * 10 ^ (l.length - 1 - i) := by
  have e : l = l.take i ++ l[i] :: l.drop (i + 1) := by rw [← List.drop_eq_getElem_cons h, List.take_append_drop]
  have e2 : l.set i (l[i] + x) = l.take i ++ (l[i] + x) :: l.drop (i + 1) := by
    rw [List.set_eq_take_append_cons_drop]; simp [h]
  rw [e2]
  conv => rhs; rw [e]
  have hl : (l.drop (i + 1)).length = l.length - 1 - i := by simp; omega
  have hl2 : (l.take i ++ l[i] :: l.drop (i + 1)).length - 1 - i = l.length - 1 - i := by rw [← e]
  rw [hl2, dv_append, dv_append, dv_cons, dv_cons, hl, List.length_cons, List.length_cons, Nat.add_mul]
  omega
end Dg
namespace Dg
/-- The number of the last i digits. -/
def low (l : List Nat) (i : Nat) : Nat := dv (l.drop (l.length - i))
/-- Of two rows of one length the first place where they part decides. -/
theorem dv_part {l r : List Nat} (hl : AD l) (_hr : AD r) (hn : l.length = r.length) (i : Nat) (hi : i < l.length) (hh : l.take i = r.take i) (hd : l.getD i 0 < r.getD i 0) : dv l < dv r := by
  have hi' : i < r.length := by omega
  have e1 : l = l.take i ++ l[i] :: l.drop (i + 1) := by rw [← List.drop_eq_getElem_cons hi, List.take_append_drop]
  have e2 : r = r.take i ++ r[i] :: r.drop (i + 1) := by rw [← List.drop_eq_getElem_cons hi', List.take_append_drop]
  rw [List.getD_eq_getElem?_getD, List.getElem?_eq_getElem hi, List.getD_eq_getElem?_getD, List.getElem?_eq_getElem hi', Option.getD_some, Option.getD_some] at hd
  rw [e1, e2, hh, dv_append, dv_append, dv_cons, dv_cons]
  have h1 : (l.drop (i + 1)).length = (r.drop (i + 1)).length := by simp [hn]
  have b1 := dv_lt (hl.drop (i + 1))
  rw [List.length_cons, List.length_cons, h1] at *
  have hp : 0 < 10 ^ (r.drop (i + 1)).length := Nat.pow_pos (by decide)
  have hm : (l[i] + 1) * 10 ^ (r.drop (i + 1)).length ≤ r[i] * 10 ^ (r.drop (i + 1)).length := Nat.mul_le_mul_right _ hd
  rw [Nat.add_mul] at hm
  omega
theorem take_eq {l r : List Nat} (hn : l.length = r.length) (i : Nat) (h : ∀ j, j < i → l.getD j 0 = r.getD j 0) : l.take i = r.take i := by
  apply List.ext_getElem?
  intro j
  rw [List.getElem?_take, List.getElem?_take]
  by_cases hj : j < i
  · rw [if_pos hj, if_pos hj]
    have := h j hj
    by_cases hl : j < l.length
    · rw [List.getD_eq_getElem?_getD, List.getElem?_eq_getElem hl, List.getD_eq_getElem?_getD, List.getElem?_eq_getElem (by omega), Option.getD_some, Option.getD_some] at this
      rw [List.getElem?_eq_getElem hl, List.getElem?_eq_getElem (by omega), this]
    · rw [List.getElem?_eq_none (by omega), List.getElem?_eq_none (by omega)]
  · rw [if_neg hj, if_neg hj]
theorem getD_pad (l : List Nat) (n j : Nat) : (l ++ List.replicate n 0).getD j 0 = l.getD j 0 := by
  simp only [List.getD_eq_getElem?_getD]
  by_cases h : j < l.length
  · rw [List.getElem?_append_left h]
  · rw [List.getElem?_append_right (by omega), List.getElem?_eq_none (l := l) (by omega)]
    by_cases h2 : j - l.length < n
    · rw [List.getElem?_replicate_of_lt h2]; rfl
    · rw [List.getElem?_eq_none (by simp; omega)]
/-- A row of digits in its place: normalized. -/
structure Nd (l : List Nat) : Prop where
  ad : AD l
  hd : l ≠ [] → l.getD 0 0 ≠ 0
  lt : l ≠ [] → l.getD (l.length - 1) 0 ≠ 0
theorem Nd.nil : Nd [] := ⟨AD.nil, fun h => (h rfl).elim, fun h => (h rfl).elim⟩
theorem Nd.pos {l : List Nat} (h : Nd l) (h0 : l ≠ []) : 10 ^ (l.length - 1) ≤ dv l := by
  cases l with
  | nil => exact (h0 rfl).elim
  | cons d r =>
    have := h.hd h0
    simpa using dv_ge (l := r) (by simpa using this)
theorem Nd.ne {l : List Nat} (h : Nd l) (h0 : l ≠ []) : dv l ≠ 0 := by
  have := h.pos h0
  have := Nat.pow_pos (n := l.length - 1) (show 0 < 10 by decide)
  omega
theorem Nd.mod {l : List Nat} (h : Nd l) (h0 : l ≠ []) : dv l % 10 ≠ 0 := by
  have e := List.dropLast_concat_getLast h0
  have hl := h.lt h0
  have k : l.getD (l.length - 1) 0 = l.getLast h0 := by
    rw [List.getD_eq_getElem?_getD, List.getLast_eq_getElem, List.getElem?_eq_getElem, Option.getD_some]
  rw [k] at hl
  have hle := h.ad _ (List.getLast_mem h0)
  rw [← e, dv_snoc]
  omega
/-- How the digits of two numbers stand at the exponents E, F. -/
theorem larger_len {l r : List Nat} {E F : Nat} (hl : Nd l) (hr : Nd r) (_h0 : l ≠ []) (h1 : r ≠ []) (h : l.length + E < r.length + F) : dv l * 10 ^ E < dv r * 10 ^ F := by
  have a := dv_lt hl.ad
  have b := hr.pos h1
  have hp : 0 < 10 ^ E := Nat.pow_pos (by decide)
  have c : dv l * 10 ^ E < 10 ^ (l.length + E) := by rw [Nat.pow_add]; exact Nat.mul_lt_mul_of_pos_right a hp
  have d : 10 ^ (r.length - 1 + F) ≤ dv r * 10 ^ F := by rw [Nat.pow_add]; exact Nat.mul_le_mul_right _ b
  have hr1 : 0 < r.length := List.length_pos_iff.2 h1
  have e : 10 ^ (l.length + E) ≤ 10 ^ (r.length - 1 + F) := Nat.pow_le_pow_right (by decide) (by omega)
  omega
theorem larger_part {l r : List Nat} {E F i : Nat} (hl : AD l) (hr : AD r) (h : l.length + E = r.length + F) (hj : ∀ j, j < i → l.getD j 0 = r.getD j 0) (hd : l.getD i 0 < r.getD i 0) : dv l * 10 ^ E < dv r * 10 ^ F := by
  rw [← dv_pad, ← dv_pad]
  have hn : (l ++ List.replicate E 0).length = (r ++ List.replicate F 0).length := by simp; omega
  have hi : i < r.length := by
    rcases Nat.lt_or_ge i r.length with h | h
    · exact h
    · rw [List.getD_eq_getElem?_getD (l := r), List.getElem?_eq_none h] at hd; simp at hd
  exact dv_part (hl.append (AD.zeros _)) (hr.append (AD.zeros _)) hn i (by simp; omega) (take_eq hn i fun j hj' => by rw [getD_pad, getD_pad]; exact hj j hj') (by rw [getD_pad, getD_pad]; exact hd)
theorem larger_same {l r : List Nat} {E F : Nat} (h : l.length + E = r.length + F) (hj : ∀ j, j < l.length ∨ j < r.length → l.getD j 0 = r.getD j 0) : dv l * 10 ^ E = dv r * 10 ^ F := by
  rw [← dv_pad, ← dv_pad]
  congr 1
  have hn : (l ++ List.replicate E 0).length = (r ++ List.replicate F 0).length := by simp; omega
  have := take_eq hn (l ++ List.replicate E 0).length (fun j _ => by
    rw [getD_pad, getD_pad]
    by_cases k : j < l.length ∨ j < r.length
    · exact hj j k
    · rw [List.getD_eq_getElem?_getD, List.getD_eq_getElem?_getD, List.getElem?_eq_none (by omega), List.getElem?_eq_none (by omega)])
  rwa [List.take_length, hn, List.take_length] at this
end Dg
namespace Dg
theorem dv_take_succ {l : List Nat} {i : Nat} (h : i < l.length) : dv (l.take (i + 1)) = 10 * dv (l.take i) + l[i] := by
  rw [List.take_succ_eq_append_getElem h, dv_snoc]
theorem take_place {l : List Nat} {k : Nat} (h : k < l.length) : dv (l.take (k + 1)) * 10 ^ (l.length - (k + 1)) = dv (l.take k) * 10 ^ (l.length - k) + l[k] * 10 ^ (l.length - (k + 1)) := by
  rw [dv_take_succ h]
  have e : l.length - k = l.length - (k + 1) + 1 := by omega
  rw [e, Nat.pow_succ, Nat.add_mul, Nat.mul_comm 10, Nat.mul_assoc, Nat.mul_comm 10]
/-- One digit by one digit. -/
theorem times_place {a b l : List Nat} {i k : Nat} (hi : i < a.length) (hk : k < b.length) (hl : l.length = a.length + b.length + 1)
    (h : dv l = dv (a.take i) * 10 ^ (a.length - i) * dv b + a[i] * 10 ^ (a.length - (i + 1)) * (dv (b.take k) * 10 ^ (b.length - k))) (hp : i + k + 2 < l.length) :
    dv (l.set (i + k + 2) (l[i + k + 2] + a[i] * b[k])) = dv (a.take i) * 10 ^ (a.length - i) * dv b + a[i] * 10 ^ (a.length - (i + 1)) * (dv (b.take (k + 1)) * 10 ^ (b.length - (k + 1))) := by
  rw [dv_set hp, h, take_place hk, Nat.mul_add]
  have e : l.length - 1 - (i + k + 2) = (a.length - (i + 1)) + (b.length - (k + 1)) := by omega
  rw [e, Nat.pow_add]
  have : a[i] * b[k] * (10 ^ (a.length - (i + 1)) * 10 ^ (b.length - (k + 1))) = a[i] * 10 ^ (a.length - (i + 1)) * (b[k] * 10 ^ (b.length - (k + 1))) := by
    generalize 10 ^ (a.length - (i + 1)) = p
    generalize 10 ^ (b.length - (k + 1)) = q
    rw [Nat.mul_mul_mul_comm]
  rw [this]; omega
theorem times_row {a b : List Nat} {i : Nat} (hi : i < a.length) : dv (a.take i) * 10 ^ (a.length - i) * dv b + a[i] * 10 ^ (a.length - (i + 1)) * (dv (b.take b.length) * 10 ^ (b.length - b.length)) = dv (a.take (i + 1)) * 10 ^ (a.length - (i + 1)) * dv b := by
  rw [take_place hi, List.take_length, Nat.sub_self, Nat.pow_zero, Nat.mul_one, Nat.add_mul]
/-- A carry to the place ahead. -/
theorem dv_carry {l : List Nat} {i : Nat} (h0 : 0 < i) (h : i < l.length) :
    dv ((l.set (i - 1) (l[i - 1]'(by omega) + l[i] / 10)).set i (l[i] % 10)) = dv l := by
  have hp : i - 1 < l.length := by omega
  have e1 := dv_set (l := l) (i := i - 1) (x := l[i] / 10) hp
  have hq : i < (l.set (i - 1) (l[i - 1] + l[i] / 10)).length := by simpa using h
  have g : (l.set (i - 1) (l[i - 1] + l[i] / 10))[i] = l[i] := by rw [List.getElem_set_ne (by omega)]
  have hq' : i < ((l.set (i - 1) (l[i - 1] + l[i] / 10)).set i (l[i] % 10)).length := by simpa using h
  have e2 := dv_set (l := (l.set (i - 1) (l[i - 1] + l[i] / 10)).set i (l[i] % 10)) (i := i) (x := 10 * (l[i] / 10)) hq'
  rw [List.getElem_set_self, List.set_set] at e2
  have e3 : l[i] % 10 + 10 * (l[i] / 10) = l[i] := by omega
  have e4 : (l.set (i - 1) (l[i - 1] + l[i] / 10)).set i l[i] = l.set (i - 1) (l[i - 1] + l[i] / 10) := by
    have := List.set_getElem_self («as» := l.set (i - 1) (l[i - 1] + l[i] / 10)) hq
    rw [g] at this; exact this
  rw [e3, e4, e1] at e2
  simp only [List.length_set] at e2
  have e5 : l.length - 1 - (i - 1) = l.length - 1 - i + 1 := by omega
  rw [e5, Nat.pow_succ] at e2
  have : l[i] / 10 * (10 ^ (l.length - 1 - i) * 10) = 10 * (l[i] / 10) * 10 ^ (l.length - 1 - i) := by
    rw [Nat.mul_comm (10 ^ _) 10, ← Nat.mul_assoc, Nat.mul_comm (l[i] / 10) 10]
  omega
end Dg
namespace Dg
open Go.Lib
/-- Digits as bytes. -/
def dch (l : List Nat) : List UInt8 := l.map fun d => UInt8.ofNat (48 + d)
theorem decDigits_dg (n : Nat) : decDigits n = dch (dg n) := by
  induction n using Nat.strongRecOn with
  | _ n ih =>
    rcases Nat.lt_or_ge n 10 with h | h
    · rw [decDigits, dif_pos h, dg_small h]; rfl
    · rw [decDigits, dif_neg (by omega), dg_big h, ih (n / 10) (by omega)]; simp [dch]
theorem itoa_dg (n : Int) : itoa n = (if n < 0 then [45] else []) ++ dch (dg n.natAbs) := by
  unfold itoa
  split
  · rw [decDigits_dg]; rfl
  · rename_i h
    rw [decDigits_dg, show n.toNat = n.natAbs by omega]; rfl
/-- The number of a row of bytes that are digits. -/
def bv (l : List UInt8) : Nat := dv (l.map fun c => c.toNat - 48)
def BD (l : List UInt8) : Prop := ∀ c, c ∈ l → 48 ≤ c.toNat ∧ c.toNat ≤ 57
theorem BD.ad {l : List UInt8} (h : BD l) : AD (l.map fun c => c.toNat - 48) := by
  intro d hd
  obtain ⟨c, hc, rfl⟩ := List.mem_map.1 hd
  have := h c hc; omega
theorem bv_lt {l : List UInt8} (h : BD l) : bv l < 10 ^ l.length := by
  have := dv_lt h.ad
  simpa [bv] using this
theorem bv_append (l r : List UInt8) : bv (l ++ r) = bv l * 10 ^ r.length + bv r := by
  simp [bv, dv_append]
theorem bv_snoc (l : List UInt8) (c : UInt8) : bv (l ++ [c]) = 10 * bv l + (c.toNat - 48) := by
  simp [bv, dv_snoc]
theorem parse_go (M : Nat) (hM : M < 2 ^ 64) (l : List UInt8) (acc : Nat) (h : BD l) (hb : acc * 10 ^ l.length + bv l ≤ M) : parseUintM M acc l = .ok (acc * 10 ^ l.length + bv l) := by
  induction l generalizing acc with
  | nil => simp [parseUintM, bv, dv]
  | cons c r ih =>
    have hc := h c (List.mem_cons_self ..)
    have e : bv (c :: r) = (c.toNat - 48) * 10 ^ r.length + bv r := by simp [bv, dv_cons]
    have k : acc * 10 ^ (c :: r).length + bv (c :: r) = (acc * 10 + (c.toNat - 48)) * 10 ^ r.length + bv r := by
      rw [e, List.length_cons, Nat.pow_succ, Nat.add_mul, Nat.mul_comm (10 ^ _) 10, ← Nat.mul_assoc, Nat.add_assoc]
    rw [k] at hb ⊢
    have hp : 0 < 10 ^ r.length := Nat.pow_pos (by decide)
    have h1 : (acc * 10 + (c.toNat - 48)) * 1 ≤ (acc * 10 + (c.toNat - 48)) * 10 ^ r.length := Nat.mul_le_mul_left _ hp
    have e64 : (2 : Nat) ^ 64 = 18446744073709551616 := by decide
    rw [parseUintM, if_pos hc, if_neg (by omega), if_neg (by omega)]
    exact ih _ (fun x hx => h x (List.mem_cons_of_mem _ hx)) hb
theorem parse_digits {l : List UInt8} (h : BD l) (h0 : l ≠ []) (hb : bv l < 2 ^ 63) : parseIntB 64 l = .ok (bv l : Int) := by
  cases l with
  | nil => exact (h0 rfl).elim
  | cons c r =>
    have hc := h c (List.mem_cons_self ..)
    have e63 : (2 : Nat) ^ 63 = 9223372036854775808 := by decide
    have h1 : parseUintB 64 (c :: r) = .ok (bv (c :: r)) := by
      rw [parseUintB, if_neg (by simp)]
      have := parse_go (2 ^ 64 - 1) (by decide) (c :: r) 0 h (by omega)
      simpa using this
    have n1 : ¬ (c.toNat = 43 ∨ c.toNat = 45) := by omega
    have n2 : ¬ c.toNat = 45 := by omega
    simp only [parseIntB, if_neg n1, h1]
    rw [if_neg (fun h => by have := h.2; rw [show 64 - 1 = 63 from rfl] at this; omega), if_neg (fun h => n2 h.1), if_neg n2]
/-- The unit of an exponent: ten to the power of it, in parts of ten to the power of -400. -/
def sc (e : Int) : Nat := 10 ^ (e + 400).toNat
theorem sc_pos (e : Int) : 0 < sc e := Nat.pow_pos (by decide)
theorem sc_add {e : Int} {k : Nat} (h : -400 ≤ e) : sc (e + k) = sc e * 10 ^ k := by
  unfold sc
  rw [← Nat.pow_add]; congr 1; omega
/-- The canonical form's number and exponent. -/
structure Cn (V M e : Int) : Prop where
  v : V = M * sc e
  three : e % 3 = 0
  m : M % 1000 ≠ 0
  lo : -400 ≤ e
theorem Cn.unique {V M e M' e' : Int} (h : Cn V M e) (k : Cn V M' e') : M = M' ∧ e = e' := by
  have key : ∀ {M e M' e' : Int}, Cn V M e → Cn V M' e' → e ≤ e' := by
    intro M e M' e' h k
    rcases Int.lt_or_le e' e with hl | hl
    · exfalso
      obtain ⟨n, hn⟩ := Int.eq_ofNat_of_zero_le (show 0 ≤ e - e' by omega)
      have e1 : e = e' + n := by omega
      have h3 := h.three
      have k3 := k.three
      obtain ⟨j, hj⟩ : ∃ j : Nat, n = j + 3 := ⟨n - 3, by omega⟩
      have hv := h.v.symm.trans k.v
      rw [e1, sc_add k.lo, hj, Nat.pow_add] at hv
      have hp : (sc e' : Int) ≠ 0 := by have := sc_pos e'; omega
      have : (M * (10 ^ j : Nat) * 1000) * (sc e' : Int) = M' * sc e' := by
        rw [← hv, Int.natCast_mul, Int.natCast_mul, show ((10 ^ 3 : Nat) : Int) = 1000 by decide, Int.mul_comm (sc e' : Int), ← Int.mul_assoc, ← Int.mul_assoc]
      have := Int.eq_of_mul_eq_mul_right hp this
      have := k.m
      omega
    · exact hl
  obtain rfl : e = e' := Int.le_antisymm (key h k) (key k h)
  have hp : (sc e : Int) ≠ 0 := by have := sc_pos e; omega
  exact ⟨Int.eq_of_mul_eq_mul_right hp (h.v.symm.trans k.v), rfl⟩
/-- Factors of 1024. -/
structure Bn (n m : Int) (k : Nat) : Prop where
  v : n = m * 1024 ^ k
  m : m % 1024 ≠ 0
theorem Bn.unique {n m m' : Int} {k k' : Nat} (h : Bn n m k) (j : Bn n m' k') : m = m' ∧ k = k' := by
  have key : ∀ {m m' : Int} {k k' : Nat}, Bn n m k → Bn n m' k' → k ≤ k' := by
    intro m m' k k' h j
    rcases Nat.lt_or_ge k' k with hl | hl
    · exfalso
      obtain ⟨i, rfl⟩ : ∃ i, k = i + 1 + k' := ⟨k - 1 - k', by omega⟩
      have hv := h.v.symm.trans j.v
      rw [Int.pow_add, Int.pow_succ, ← Int.mul_assoc] at hv
      have hp : ((1024 : Int) ^ k') ≠ 0 := Int.pow_ne_zero (by decide)
      have := Int.eq_of_mul_eq_mul_right hp hv
      have := j.m
      rw [← Int.mul_assoc] at *
      omega
    · exact hl
  obtain rfl : k = k' := Nat.le_antisymm (key h j) (key j h)
  exact ⟨Int.eq_of_mul_eq_mul_right (Int.pow_ne_zero (by decide)) (h.v.symm.trans j.v), rfl⟩
end Dg
namespace Dg
theorem AD.set {l : List Nat} (h : AD l) {i x : Nat} (hx : x ≤ 9) : AD (l.set i x) := by
  intro d hd
  rcases List.mem_or_eq_of_mem_set hd with h' | h'
  · exact h d h'
  · omega
/-- Noughts struck at both ends. -/
theorem strip_ends {l m : List Nat} {j k : Nat} (h : l = List.replicate j 0 ++ (m ++ List.replicate k 0)) : dv l = dv m * 10 ^ k := by
  rw [h, dv_strip, dv_pad]
/-- Trailing factors of ten. -/
theorem whole_text {l : List Nat} {n : Nat} (h : Nd l) (h0 : l ≠ []) : l ++ List.replicate n 0 = dg (dv l * 10 ^ n) := by
  rw [← dv_pad]
  cases l with
  | nil => exact (h0 rfl).elim
  | cons d r => exact dg_unique (by simpa using h.hd h0) (h.ad.append (AD.zeros n))
end Dg
namespace Dg
/-- Rounded up to whole parts. -/
def upA (n p : Nat) : Nat := (n + p - 1) / p
theorem upA_eq {n p k : Nat} (_hp : 0 < p) (h1 : k * p < n) (h2 : n ≤ (k + 1) * p) : upA n p = k + 1 := by
  unfold upA
  rw [Nat.add_mul, Nat.one_mul] at h2
  have e1 : (k + 1) * p ≤ n + p - 1 := by rw [Nat.add_mul, Nat.one_mul]; omega
  have e2 : n + p - 1 < (k + 1 + 1) * p := by rw [Nat.add_mul, Nat.add_mul, Nat.one_mul]; omega
  exact Nat.le_antisymm (Nat.lt_succ_iff.1 ((Nat.div_lt_iff_lt_mul (by omega)).2 e2)) ((Nat.le_div_iff_mul_le (by omega)).2 e1)
theorem upA_exact {n p : Nat} (hp : 0 < p) (h : n % p = 0) : upA n p = n / p := by
  rcases Nat.eq_zero_or_pos n with rfl | h0
  · simp [upA]; omega
  · obtain ⟨k, rfl⟩ := Nat.dvd_of_mod_eq_zero h
    rw [Nat.mul_div_cancel_left _ hp]
    have hk : 0 < k := Nat.pos_of_mul_pos_left h0
    have : upA (p * k) p = k - 1 + 1 := upA_eq hp (by rw [Nat.mul_comm p k]; exact (Nat.mul_lt_mul_right hp).2 (by omega)) (by rw [Nat.mul_comm p k]; exact Nat.mul_le_mul_right _ (by omega))
    omega
theorem upA_over {n p : Nat} (hp : 0 < p) (h : n % p ≠ 0) : upA n p = n / p + 1 := by
  have e := Nat.div_add_mod n p
  have hl := Nat.mod_lt n hp
  refine upA_eq hp ?_ ?_
  · rw [Nat.mul_comm]; omega
  · rw [Nat.add_mul, Nat.mul_comm (n / p)]; omega
/-- Rounded away from 0 to whole parts, with its sign. -/
def up (V : Int) (p : Nat) : Int := if V < 0 then -(upA V.natAbs p : Int) else upA V.natAbs p
theorem up_exact {M : Int} {p : Nat} (hp : 0 < p) : up (M * p) p = M := by
  unfold up
  have h : (M * p).natAbs % p = 0 := by rw [Int.natAbs_mul, Int.natAbs_natCast]; exact Nat.mul_mod_left _ _
  rw [upA_exact hp h, Int.natAbs_mul, Int.natAbs_natCast, Nat.mul_div_cancel _ hp]
  have : (M * p < 0) ↔ M < 0 := by
    constructor
    · intro h; rcases Int.lt_or_le M 0 with k | k
      · exact k
      · have := Int.mul_nonneg k (show (0 : Int) ≤ p by omega); omega
    · intro h; have := Int.mul_neg_of_neg_of_pos h (show (0 : Int) < p by omega); exact this
  split <;> rename_i hh
  · have := this.1 hh; omega
  · have : ¬ M < 0 := fun h => hh (this.2 h); omega
/-- A product that is read back by a division has not wrapped. -/
theorem mul_back {a b c : Int} (hb : b ≠ 0) (hb1 : -9223372036854775807 ≤ b) (hb2 : b ≤ 9223372036854775807)
    (hm : ∃ k : Int, c = a * b + k * 18446744073709551616) (h : c.tdiv b = a) : c = a * b := by
  obtain ⟨k, hk⟩ := hm
  have e := Int.mul_tdiv_add_tmod c b
  rw [h, Int.mul_comm b a] at e
  have h1 : (c.tmod b).natAbs < b.natAbs := by rw [Int.natAbs_tmod]; exact Nat.mod_lt _ (by omega)
  omega
theorem tdiv_cast (m p : Nat) : ((m : Int)).tdiv (p : Int) = ((m / p : Nat) : Int) := by
  rw [Int.tdiv_eq_ediv_of_nonneg (by omega)]; rfl
end Dg
namespace Dg
open Go.Lib
theorem cn_of {V a e : Int} {j : Nat} (hv : V = a * sc e) (ha : a % 10 ≠ 0) (hj : j ≤ 2) (h3 : (e - j) % 3 = 0) (lo : -400 ≤ e - j) : Cn V (a * 10 ^ j) (e - j) := by
  refine ⟨?_, h3, ?_, lo⟩
  · have := sc_add (e := e - j) (k := j) lo
    rw [show e - j + (j : Int) = e by omega] at this
    rw [hv, this, Int.natCast_mul, Int.mul_assoc, Int.mul_comm (sc (e - j) : Int)]
    rfl
  · have : j = 0 ∨ j = 1 ∨ j = 2 := by omega
    rcases this with rfl | rfl | rfl
    · simp; omega
    · rw [show (10 : Int) ^ 1 = 10 by decide]; omega
    · rw [show (10 : Int) ^ 2 = 100 by decide]; omega
/-- The suffix of an exponent: of the kind by thousands; with an exponent. -/
def sfxD (e : Int) : List UInt8 :=
  if e = -9 then [110] else if e = -6 then [117] else if e = -3 then [109] else if e = 3 then [107] else if e = 6 then [77] else if e = 9 then [71] else if e = 12 then [84] else if e = 15 then [80] else if e = 18 then [69] else []
def sfxE (e : Int) : List UInt8 := if e = 0 then [] else 101 :: itoa e
def sfxB (k : Nat) : List UInt8 :=
  if k = 1 then [75, 105] else if k = 2 then [77, 105] else if k = 3 then [71, 105] else if k = 4 then [84, 105] else if k = 5 then [80, 105] else if k = 6 then [69, 105] else []
/-- The text of a number in canonical form; f: 0 with an exponent, 1 by 1024, 2 by thousands. -/
def CanTxt (f : Nat) (V : Int) (t : List UInt8) : Prop :=
  (V = 0 ∧ t = [48]) ∨
  (V ≠ 0 ∧ (f ≠ 1 ∨ V.natAbs < 1024 * sc 0) ∧ ∃ M e, Cn V M e ∧ t = itoa M ++ if f = 0 then sfxE e else sfxD e) ∨
  (f = 1 ∧ 1024 * sc 0 ≤ V.natAbs ∧ ∃ n m k, V = n * sc 0 ∧ Bn n m k ∧ t = itoa m ++ sfxB k)
theorem CanTxt.unique {f : Nat} {V : Int} {t t' : List UInt8} (h : CanTxt f V t) (k : CanTxt f V t') : t = t' := by
  have hp := sc_pos 0
  rcases h with ⟨h1, h2⟩ | ⟨h1, h2, M, e, h3, h4⟩ | ⟨h1, h2, n, m, j, h3, h4, h5⟩
  · rcases k with ⟨k1, k2⟩ | ⟨k1, k2, M', e', k3, k4⟩ | ⟨k1, k2, n', m', j', k3, k4, k5⟩
    · rw [h2, k2]
    · exact (k1 h1).elim
    · rw [h1] at k2; simp at k2; omega
  · rcases k with ⟨k1, k2⟩ | ⟨k1, k2, M', e', k3, k4⟩ | ⟨k1, k2, n', m', j', k3, k4, k5⟩
    · exact (h1 k1).elim
    · obtain ⟨rfl, rfl⟩ := h3.unique k3
      rw [h4, k4]
    · rcases h2 with h2 | h2
      · exact (h2 k1).elim
      · omega
  · rcases k with ⟨k1, k2⟩ | ⟨k1, k2, M', e', k3, k4⟩ | ⟨k1, k2, n', m', j', k3, k4, k5⟩
    · rw [k1] at h2; simp at h2; omega
    · rcases k2 with k2 | k2
      · exact (k2 h1).elim
      · omega
    · have hp' : (sc 0 : Int) ≠ 0 := by omega
      obtain rfl : n = n' := Int.eq_of_mul_eq_mul_right hp' (h3.symm.trans k3)
      obtain ⟨rfl, rfl⟩ := h4.unique k4
      rw [h5, k5]
end Dg
namespace Dg
def nsV (a : Int) (k : Nat) : Int := if a < 0 then -((a.natAbs / 10 ^ k : Nat) : Int) else ((a.natAbs / 10 ^ k : Nat) : Int)
def nsF (a : Int) (k : Nat) : Bool := decide (a.natAbs % 10 ^ k ≠ 0)
theorem nsV_abs (a : Int) (k : Nat) : (nsV a k).natAbs = a.natAbs / 10 ^ k := by
  unfold nsV
  generalize a.natAbs / 10 ^ k = q
  split <;> omega
theorem nsV_sgn (a : Int) (k : Nat) : (a < 0 → nsV a k ≤ 0) ∧ (0 ≤ a → 0 ≤ nsV a k) := by
  unfold nsV
  generalize a.natAbs / 10 ^ k = q
  split <;> omega
theorem nsV_le (a : Int) (k : Nat) : (nsV a k).natAbs ≤ a.natAbs := by rw [nsV_abs]; exact Nat.div_le_self _ _
theorem nsV_zero (a : Int) : nsV a 0 = a := by
  have h1 := nsV_abs a 0
  have h2 := nsV_sgn a 0
  rw [Nat.pow_zero, Nat.div_one] at h1
  omega
theorem nsF_zero (a : Int) : nsF a 0 = false := by simp [nsF, Nat.mod_one]
theorem nsV_succ (a : Int) (k : Nat) : (nsV a k).tdiv 10 = nsV a (k + 1) := by
  have e : a.natAbs / 10 ^ (k + 1) = a.natAbs / 10 ^ k / 10 := by rw [Nat.pow_succ, Nat.div_div_eq_div_mul]
  have h10 : (10 : Int) = ((10 : Nat) : Int) := rfl
  unfold nsV
  rw [e]
  generalize a.natAbs / 10 ^ k = q
  split
  · rw [Int.neg_tdiv, h10, tdiv_cast]
  · rw [h10, tdiv_cast]
theorem nsV_mod (a : Int) (k : Nat) : ((nsV a k).tmod 10 != 0) = decide (a.natAbs / 10 ^ k % 10 ≠ 0) := by
  have h1 : ((nsV a k).tmod 10).natAbs = a.natAbs / 10 ^ k % 10 := by
    rw [Int.natAbs_tmod, nsV_abs]; rfl
  generalize a.natAbs / 10 ^ k % 10 = q at *
  rw [Bool.eq_iff_iff]
  simp only [bne_iff_ne, decide_eq_true_eq]
  omega
theorem nsF_succ (a : Int) (k : Nat) : nsF a (k + 1) = (nsF a k || decide (a.natAbs / 10 ^ k % 10 ≠ 0)) := by
  unfold nsF
  rw [Nat.pow_succ, Nat.mod_mul]
  have hp : 0 < 10 ^ k := Nat.pow_pos (by decide)
  generalize a.natAbs / 10 ^ k % 10 = q at *
  generalize a.natAbs % 10 ^ k = r at *
  rw [Bool.eq_iff_iff]
  simp only [Bool.or_eq_true, decide_eq_true_eq]
  have : 10 ^ k * q = 0 ↔ q = 0 := by
    constructor
    · intro h; rcases Nat.mul_eq_zero.1 h with h | h
      · omega
      · exact h
    · rintro rfl; rfl
  omega
theorem ns_end (a : Int) (n : Nat) : up a (10 ^ n) = if nsF a n then (if 0 < a then nsV a n + 1 else nsV a n - 1) else nsV a n := by
  have hp : 0 < 10 ^ n := Nat.pow_pos (by decide)
  unfold up nsF nsV
  by_cases h : a.natAbs % 10 ^ n = 0
  · rw [upA_exact hp h, if_neg (c := decide (a.natAbs % 10 ^ n ≠ 0) = true) (by simp [h])]
  · rw [upA_over hp h, if_pos (c := decide (a.natAbs % 10 ^ n ≠ 0) = true) (by simp [h])]
    have : a ≠ 0 := by rintro rfl; exact h (Nat.zero_mod _)
    generalize a.natAbs / 10 ^ n = q
    split <;> split <;> omega
theorem ns_gone {a : Int} {k n : Nat} (hk : k ≤ n) (h : nsV a k = 0) : nsV a n = 0 ∧ nsF a n = decide (a ≠ 0) ∧ nsF a k = decide (a ≠ 0) := by
  have hz : a.natAbs / 10 ^ k = 0 := by rw [← nsV_abs, h]; rfl
  have hp : 0 < 10 ^ k := Nat.pow_pos (by decide)
  have hlt : a.natAbs < 10 ^ k := by
    rcases Nat.lt_or_ge a.natAbs (10 ^ k) with h1 | h1
    · exact h1
    · have := Nat.div_pos h1 hp; omega
  have hle : 10 ^ k ≤ 10 ^ n := Nat.pow_le_pow_right (by decide) hk
  have hz2 : a.natAbs / 10 ^ n = 0 := Nat.div_eq_of_lt (by omega)
  refine ⟨by have := nsV_abs a n; omega, ?_, ?_⟩
  · unfold nsF; rw [Nat.mod_eq_of_lt (by omega)]; simp
  · unfold nsF; rw [Nat.mod_eq_of_lt hlt]; simp
theorem ns_done {a : Int} {k n : Nat} (hk : k ≤ n) (h : nsV a k = 0) : up a (10 ^ n) = (if a = 0 then 0 else if 0 < a then 1 else -1) ∧ nsF a n = nsF a k ∧ (nsF a k = true ↔ a ≠ 0) := by
  obtain ⟨h1, h2, h3⟩ := ns_gone hk h
  have := ns_end a n
  rw [h1, h2] at this
  refine ⟨?_, h2.trans h3.symm, by rw [h3]; simp⟩
  by_cases h0 : a = 0
  · subst h0; simpa using this
  · rw [this]; simp [h0]
theorem nsF_room {a : Int} {n : Nat} (h : nsF a n = true) : (nsV a n).natAbs < a.natAbs := by
  rw [nsV_abs]
  unfold nsF at h
  have h' : a.natAbs % 10 ^ n ≠ 0 := by simpa using h
  have hp : 0 < 10 ^ n := Nat.pow_pos (by decide)
  have e := Nat.div_add_mod a.natAbs (10 ^ n)
  have : a.natAbs / 10 ^ n * 1 ≤ a.natAbs / 10 ^ n * 10 ^ n := Nat.mul_le_mul_left _ hp
  rw [Nat.mul_comm (10 ^ n)] at e
  omega
end Dg
