/- Whole numbers (bigall/int.go): Sign, Int64, SetInt64, NewInt, IsInt64. Whole numbers (bigall/int.go): Cmp, Neg, Lsh. Numbers of 64 bits (resource/math.go: divideByScaleInt64, removeInt64Factors). Decimals (inf/dec.go): the small methods. Amounts of 64 bits (resource/amount.go: AsDec, AsScale, Sign, AsScaledInt64). -/
import Derived.Test.YtcpjclakdpjjfaaGreatDoorW11
import Derived.Test.YtcpjclakdpjjfaaGreatDoorW10
import Derived.Handy
namespace Go.Proofs.YtcpjclakdpjjfaaGreatDoor
open Go.RowKit Wd
def sgnI (n : Int) : Int := if n < 0 then -1 else if n = 0 then 0 else 1
set_option maxHeartbeats 400000 in
theorem int_sign (b : Nat) (s : Option Int) (n : Int) (v : Value) (w : World) (h : IA w b s n v) :
    Calls Tryz.prog 111 #[.pointer (some ⟨b, 0, none⟩)] w fun e w' => e = .returned (.int .i64 (sgnI n)) ∧ w = w' := by
  obtain ⟨a, l, c, rfl, hl, _⟩ := h.nv.len
  have c1 := h.abs
  have c0 := h.neg
  by_cases h0 : n = 0
  · have t : ((l : Int) == 0) = true := by simp; omega
    have e0 : sgnI n = 0 := by simp [sgnI, h0]
    rw [e0]
    clear hl h0 e0 h
    go_enter Tryz.func111, Tryz.ntmps111
    go_wp2_with fail
    go_ret
    exact ⟨rfl, rfl⟩
  · have t : ((l : Int) == 0) = false := by simp; omega
    by_cases hn : n < 0
    · have e0 : sgnI n = -1 := by simp [sgnI, hn]
      rw [show decide (n < 0) = true by simpa using hn] at c0
      rw [e0]
      clear hl h0 e0 h hn
      go_enter Tryz.func111, Tryz.ntmps111
      go_wp2_with fail
      go_ret
      exact ⟨rfl, rfl⟩
    · have e0 : sgnI n = 1 := by simp [sgnI, hn, h0]
      rw [show decide (n < 0) = false by simpa using hn] at c0
      rw [e0]
      clear hl h0 e0 h hn
      go_enter Tryz.func111, Tryz.ntmps111
      go_wp2_with fail
      go_ret
      exact ⟨rfl, rfl⟩
theorem low_word {l : Nat} {ws : List Nat} (h0 : 0 < l) (hl : l ≤ ws.length) (hw : WL ws) : val (ws.take l) % B = wat ws 0 := by
  cases ws with
  | nil => simp at hl; omega
  | cons x r =>
    obtain ⟨k, rfl⟩ : ∃ k, l = k + 1 := ⟨l - 1, by omega⟩
    rw [List.take_succ_cons, val_cons]
    have hx := hw x (List.mem_cons_self ..)
    rw [Nat.add_mul_mod_self_left, Nat.mod_eq_of_lt hx]; rfl
set_option maxHeartbeats 400000 in
theorem low64_calls (v : Value) (n : Nat) (w : World) (h : Nv w v n) :
    Calls Tryz.prog 135 #[v] w fun e w' => e = .returned (.int .u64 ((n % B : Nat) : Int)) ∧ w = w' := by
  have zero : ∀ (a : Option Addr) (c : Nat), Calls Tryz.prog 135 #[.slice a 0 c] w fun e w' => e = .returned (.int .u64 0) ∧ w = w' := fun a c => by
    go_enter Tryz.func135, Tryz.ntmps135
    go_wp2_with fail
    go_ret
    exact ⟨rfl, rfl⟩
  rcases h with ⟨rfl, rfl⟩ | ⟨b, l, ws, rfl, h2, h3, h4, h5⟩
  · rw [Nat.zero_mod]; exact zero none 0
  · rcases Nat.eq_zero_or_pos l with rfl | hl
    · have : n = 0 := (Nv.eq_zero h4 h5 h3).2 rfl
      rw [this, Nat.zero_mod]; exact zero _ _
    · have e := low_word hl h3 h2.wl
      rw [h5] at e
      rw [e]
      have c := h2.cell (i := 0) (by omega)
      have t : ((l : Int) == 0) = false := by simp; omega
      clear h4 h5 e h2
      go_enter Tryz.func135, Tryz.ntmps135
      go_wp2_with fail
      go_ret
      exact ⟨rfl, rfl⟩
theorem int64_word (n : Int) : wrap64 ((n.natAbs % B : Nat) : Int) = wrap64 (n.natAbs : Int) := by
  rw [B_eq]; unfold wrap64; omega
theorem int64_neg (n : Int) (h : n < 0) : wrap64 (-wrap64 (n.natAbs : Int)) = wrap64 n := by
  unfold wrap64; omega
set_option maxHeartbeats 400000 in
theorem int_int64 (b : Nat) (s : Option Int) (n : Int) (v : Value) (w : World) (h : IA w b s n v) :
    Calls Tryz.prog 113 #[.pointer (some ⟨b, 0, none⟩)] w fun e w' => e = .returned (.int .i64 (wrap64 n)) ∧ w = w' := by
  obtain ⟨a, l, c, rfl, hl, _⟩ := h.nv.len
  have c1 := h.abs
  have c0 := h.neg
  have HL := Lib.hid (low64_calls _ _ _ h.nv)
  have W1 := Lib.hid (int64_word n)
  have W2 := Lib.hid (int64_neg n)
  by_cases hn : n < 0
  · rw [show decide (n < 0) = true by simpa using hn] at c0
    clear h hl
    go_enter Tryz.func113, Tryz.ntmps113
    go_wp2_with fail
    refine HL.out.mono ?_
    rintro e w1 ⟨rfl, rfl⟩
    go_wp2_with fail
    go_ret
    exact ⟨by rw [← W2.out hn, ← W1.out]; rfl, rfl⟩
  · rw [show decide (n < 0) = false by simpa using hn] at c0
    clear h hl
    go_enter Tryz.func113, Tryz.ntmps113
    go_wp2_with fail
    refine HL.out.mono ?_
    rintro e w1 ⟨rfl, rfl⟩
    go_wp2_with fail
    go_ret
    exact ⟨by rw [show wrap64 n = wrap64 (n.natAbs : Int) by rw [show (n.natAbs : Int) = n by omega], ← W1.out]; rfl, rfl⟩
theorem neg_word {x : Int} (h1 : -9223372036854775808 ≤ x) (h : x < 0) : IntKind.u64.wrap (wrap64 (-x)) = (x.natAbs : Int) := by
  rw [IntKind.wrap_u64]; unfold wrap64; omega
theorem pos_word {x : Int} (h1 : x ≤ 9223372036854775807) (h : 0 ≤ x) : IntKind.u64.wrap x = (x.natAbs : Int) := by
  rw [IntKind.wrap_u64]; omega
set_option maxRecDepth 10000 in
set_option maxHeartbeats 800000 in
theorem int_setInt64 (b : Nat) (s : Option Int) (n : Int) (v : Value) (x : Int) (w : World) (h : IA w b s n v) (h1 : -9223372036854775808 ≤ x) (h2 : x ≤ 9223372036854775807) :
    Calls Tryz.prog 114 #[.pointer (some ⟨b, 0, none⟩), .int .i64 x] w (IntRet w b v s x) := by
  have c1 := h.abs
  have hB : x.natAbs < B := by rw [B_eq]; omega
  have HS := Lib.hid (setUint64_calls v x.natAbs w h.nv.zs hB)
  by_cases hx : x < 0
  · have e := neg_word h1 hx
    have NB := Lib.hid (show true = decide (x < 0) by simp [hx])
    clear hB h1 h2
    generalize hq : wrap64 (-x) = q at *
    go_enter Tryz.func114, Tryz.ntmps114
    go_wp2_with fail
    refine HS.out.mono ?_
    rintro e w2 ⟨v', rfl, hres⟩
    obtain ⟨a1, l1, c1, rfl, hl0, hl1⟩ := hres.nv.len
    obtain ⟨z2, f1, z3, f0⟩ := h.z (k := 0) hres
    have FIN := Lib.hid (int_fin h (k := 0) (n' := x) hres)
    clear hres hl0
    go_wp2_with fail
    go_ret
    exact ⟨rfl, _, NB.out ▸ FIN.out⟩
  · have e := pos_word h2 (by omega)
    have NB := Lib.hid (show false = decide (x < 0) by simp; omega)
    clear hB h1 h2
    go_enter Tryz.func114, Tryz.ntmps114
    go_wp2_with fail
    refine HS.out.mono ?_
    rintro e w2 ⟨v', rfl, hres⟩
    obtain ⟨a1, l1, c1, rfl, hl0, hl1⟩ := hres.nv.len
    obtain ⟨z2, f1, z3, f0⟩ := h.z (k := 0) hres
    have FIN := Lib.hid (int_fin h (k := 0) (n' := x) hres)
    clear hres hl0
    go_wp2_with fail
    go_ret
    exact ⟨rfl, _, NB.out ▸ FIN.out⟩
/-- What a call ends in that makes a new number n. -/
structure NewRes (w : World) (s : Option Int) (n : Int) (b : Nat) (v : Value) (w' : World) : Prop where
  ia : IA w' b s n v
  mod : Mod [] w w'
  own : w.heap.size ≤ b ∧ ∀ k, k ∈ sb v → w.heap.size ≤ k
def NewRet (w : World) (s : Option Int) (n : Int) (e : Ending) (w' : World) : Prop := ∃ b v, e = .returned (.pointer (some ⟨b, 0, none⟩)) ∧ NewRes w s n b v w'
theorem NewRes.apart {w w' : World} {s : Option Int} {n : Int} {b : Nat} {v : Value} (h : NewRes w s n b v w') {c : Nat} {s2 : Option Int} {n2 : Int} {u : Value} (k : IA w c s2 n2 u) : c ≠ b ∧ (∀ j, j ∈ sb u → j ∉ sb v) ∧ IA w' c s2 n2 u :=
  ⟨by have := k.lt; have := h.own.1; omega, fun j hj hv => by have := k.nv.zs.lt j hj; have := h.own.2 j hv; omega, k.mod h.mod (by simp) (by simp)⟩
theorem new_zero (w : World) (hw : 19 ≤ w.heap.size) : NewRes w none 0 w.heap.size (.slice none 0 0) (w.alloc (.cells #[.bool false, .slice none 0 0] 120)) :=
  ⟨⟨Hd.new w 120 _, Nv.nil _, hw, by simp [sb]⟩, (Mod.refl [] w).alloc _, Nat.le_refl _, by simp [sb]⟩
theorem new_one (w : World) (hw : 19 ≤ w.heap.size) {x : Int} (h0 : x ≠ 0) (hB : x.natAbs < B) :
    NewRes w none x (w.heap.size + 1) (.slice (some ⟨w.heap.size, 0, none⟩) 1 1) ((w.alloc (.cells #[.int .u64 (x.natAbs : Nat)] 177)).alloc (.cells #[.bool (decide (x < 0)), .slice (some ⟨w.heap.size, 0, none⟩) 1 1] 120)) := by
  have hb : Blk (w.alloc (.cells #[.int .u64 (x.natAbs : Nat)] 177)) w.heap.size [x.natAbs] := by
    refine ⟨?_, by intro y hy; rw [List.mem_singleton.1 hy]; exact hB, by simp⟩
    show (w.heap.push _)[w.heap.size]? = _
    simp [wc]
  have hsz : (w.alloc (.cells #[.int .u64 (x.natAbs : Nat)] 177)).heap.size = w.heap.size + 1 := by simp
  refine ⟨⟨?_, ?_, by omega, ?_⟩, ((Mod.refl [] w).alloc _).alloc _, by omega, by simp [sb]⟩
  · have := Hd.new (w.alloc (.cells #[.int .u64 (x.natAbs : Nat)] 177)) 120 #[.bool (decide (x < 0)), .slice (some ⟨w.heap.size, 0, none⟩) 1 1]
    rw [hsz] at this; exact this
  · refine .inr ⟨w.heap.size, 1, [x.natAbs], rfl, hb.alloc _, by simp, ?_, by simp [val]⟩
    simp [Nrm]; omega
  · simp [sb]; exact hw
set_option maxHeartbeats 800000 in
theorem newInt_calls (x : Int) (w : World) (hw : 19 ≤ w.heap.size) (h1 : -9223372036854775807 ≤ x) (h2 : x ≤ 9223372036854775807) :
    Calls Tryz.prog 68 #[.int .i64 x] w (NewRet w none x) := by
  have hB : x.natAbs < B := by rw [B_eq]; omega
  by_cases h0 : x = 0
  · subst h0
    have F := Lib.hid (new_zero w hw)
    clear hB h1 h2 hw
    go_enter Tryz.func68, Tryz.ntmps68
    go_wp2_with fail
    go_ret
    exact ⟨_, _, rfl, F.out⟩
  · have F := new_one w hw h0 hB
    have t0 : (x == 0) = false := by simpa using h0
    by_cases hx : x < 0
    · have e : IntKind.u64.wrap (-(IntKind.u64.wrap x)) = (x.natAbs : Int) := by rw [IntKind.wrap_u64, IntKind.wrap_u64]; omega
      rw [← e, show decide (x < 0) = true by simpa using hx] at F
      have FF := Lib.hid F
      clear hB h1 h2 hw e F
      go_enter Tryz.func68, Tryz.ntmps68
      go_wp2_with fail
      go_ret
      exact ⟨_, _, rfl, FF.out⟩
    · have e := pos_word h2 (by omega)
      rw [← e, show decide (x < 0) = false by simpa using hx] at F
      have FF := Lib.hid F
      clear hB h1 h2 hw e F
      go_enter Tryz.func68, Tryz.ntmps68
      go_wp2_with fail
      go_ret
      exact ⟨_, _, rfl, FF.out⟩
def BoolRet (w : World) (e : Ending) (w' : World) : Prop := (∃ r : Bool, e = .returned (.bool r)) ∧ w = w'
theorem BoolRet.mk {w : World} (r : Bool) : BoolRet w (.returned (.bool r)) w := ⟨⟨r, rfl⟩, rfl⟩
end Go.Proofs.YtcpjclakdpjjfaaGreatDoor
namespace Go.Proofs.YtcpjclakdpjjfaaGreatDoor
open Go.RowKit Wd
def cmpZI (a b : Int) : Int := if a < b then -1 else if b < a then 1 else 0
def CmpRet (r : Int) (w : World) (e : Ending) (w' : World) : Prop := e = .returned (.int .i64 r) ∧ ∃ m, w' = w.drewN m
set_option maxRecDepth 10000 in
set_option maxHeartbeats 1600000 in
theorem int_cmp (bx bY : Nat) (sx sy : Option Int) (nx ny : Int) (vx vy : Value) (w : World) (hx : IA w bx sx nx vx) (hy : IA w bY sy ny vy) (hne : bx ≠ bY) (hXb : nx.natAbs < Big) (hYb : ny.natAbs < Big) :
    Calls Tryz.prog 115 #[.pointer (some ⟨bx, 0, none⟩), .pointer (some ⟨bY, 0, none⟩)] w (CmpRet (cmpZI nx ny) w) := by
  have hp := iptr_eql hx hy
  rw [show decide (bx = bY) = false by simp [hne]] at hp
  have x0 := hx.neg
  have x1 := hx.abs
  have y0 := hy.neg
  have y1 := hy.abs
  have HC := Lib.hid (fun k => cmp_calls vx vy nx.natAbs ny.natAbs (w.drewN k) (hx.nv.drewN k) (hy.nv.drewN k) hXb hYb)
  have hr : (if decide (nx < 0) = decide (ny < 0) then (if decide (nx < 0) then -(cmpI nx.natAbs ny.natAbs) else cmpI nx.natAbs ny.natAbs) else if decide (nx < 0) then -1 else 1) = cmpZI nx ny := by
    unfold cmpZI cmpI
    by_cases h1 : nx < 0 <;> by_cases h2 : ny < 0 <;> simp only [h1, h2, decide_true, decide_false, if_true] <;> (repeat' split) <;> first | omega | (simp_all; done) | (simp_all; omega)
  have hci : -1 ≤ cmpI nx.natAbs ny.natAbs ∧ cmpI nx.natAbs ny.natAbs ≤ 1 := by unfold cmpI; split <;> (try split) <;> omega
  generalize cmpI nx.natAbs ny.natAbs = ci at *
  generalize decide (nx < 0) = p at *
  generalize decide (ny < 0) = q at *
  clear hXb hYb
  cases p <;> cases q
  all_goals
    have HR := Lib.hid hr
    clear hr
    go_enter Tryz.func115, Tryz.ntmps115
    go_wp2_with fail
    go_quiet (fail)
    go_wp2_with fail
    try go_quiet ((go_at_call 156; exact quiet_add (HC.out _)))
    try go_wp2_with fail
    go_ret
    exact ⟨by first | rw [← HR.out]; rfl, _, rfl⟩
theorem IntRes.negate {w w1 : World} {b : Nat} {v : Value} {s : Option Int} {n : Int} {v' : Value} (h : IntRes w b v s n v' w1) :
    IntRes w b v s (-n) v' (w1.setCell ⟨b, 0, none⟩ (.bool (decide (-n < 0)))) := by
  have h1 := h.ia.hd.set 0 (.bool (decide (-n < 0)))
  rw [hdr_set0] at h1
  have hb' : b ∉ sb v' := h.ia.not_sb h.ia.nv.zs
  refine ⟨⟨h1, ?_, h.ia.lo, h.ia.vlo⟩, h.mod.setCell _ (.inl (by simp)), h.own⟩
  rw [Int.natAbs_neg]
  exact h.ia.nv.mod ((Mod.refl [b] w1).setCell (p := ⟨b, 0, none⟩) _ (.inl (by simp))) (fun j hj hb => hb' (List.mem_singleton.1 hb ▸ hj))
set_option maxHeartbeats 400000 in
theorem int_set_same (bz : Nat) (sz : Option Int) (nz : Int) (vz : Value) (w : World) (hz : IA w bz sz nz vz) :
    Calls Tryz.prog 109 #[.pointer (some ⟨bz, 0, none⟩), .pointer (some ⟨bz, 0, none⟩)] w fun e w' => e = .returned (.pointer (some ⟨bz, 0, none⟩)) ∧ w = w' := by
  have hp := iptr_neq hz hz
  rw [show (!decide (bz = bz)) = false by simp] at hp
  go_enter Tryz.func109, Tryz.ntmps109
  go_wp2_with fail
  go_ret
  exact ⟨rfl, rfl⟩
set_option maxHeartbeats 800000 in
theorem int_neg_any (bz bx : Nat) (sz : Option Int) (n : Int) (vz : Value) (w : World) (hset : Calls Tryz.prog 109 #[.pointer (some ⟨bz, 0, none⟩), .pointer (some ⟨bx, 0, none⟩)] w (IntRet w bz vz sz n)) :
    Calls Tryz.prog 112 #[.pointer (some ⟨bz, 0, none⟩), .pointer (some ⟨bx, 0, none⟩)] w (IntRet w bz vz sz (-n)) := by
  have HS := Lib.hid hset
  clear hset
  go_enter Tryz.func112, Tryz.ntmps112
  go_wp2_with fail
  refine HS.out.mono ?_
  rintro e w1 ⟨rfl, v', hres⟩
  obtain ⟨a1, l1, c1, rfl, hl0, hl1⟩ := hres.ia.nv.len
  have z1 := hres.ia.abs
  have z0 := hres.ia.neg
  have f0 := hres.ia.free 0
  have FIN := Lib.hid hres.negate
  clear hres
  by_cases hn : n = 0
  · have t : decide (0 < l1) = false := by simp; omega
    have NB := Lib.hid (show false = decide (-n < 0) by simp; omega)
    clear hl0 hn
    go_wp2_with fail
    go_ret
    exact ⟨rfl, _, NB.out ▸ FIN.out⟩
  · have t : decide (0 < l1) = true := by simp; omega
    have NB := Lib.hid (show (!decide (n < 0)) = decide (-n < 0) by rw [Bool.eq_iff_iff]; simp; omega)
    generalize decide (n < 0) = p at *
    clear hl0 hn
    go_wp2_with fail
    go_ret
    exact ⟨rfl, _, NB.out ▸ FIN.out⟩
theorem int_neg (bz : Nat) (sz : Option Int) (nz : Int) (vz : Value) (w : World) (hz : IA w bz sz nz vz) :
    Calls Tryz.prog 112 #[.pointer (some ⟨bz, 0, none⟩), .pointer (some ⟨bz, 0, none⟩)] w (IntRet w bz vz sz (-nz)) :=
  int_neg_any bz bz sz nz vz w ((int_set_same bz sz nz vz w hz).mono fun _ _ ⟨h1, h2⟩ => ⟨h1, vz, h2 ▸ IntRes.refl hz 0⟩)
set_option maxRecDepth 10000 in
set_option maxHeartbeats 800000 in
theorem int_lsh (bz bx : Nat) (sz sx : Option Int) (nz nx : Int) (vz vx : Value) (s : Nat) (w : World) (hz : IA w bz sz nz vz) (hx : IA w bx sx nx vx) (hpos : 0 < nx) (hne : bz ≠ bx) (hd : ∀ j, j ∈ sb vx → j ∉ sb vz) (hXb : nx.natAbs < Big) (hs0 : 0 < s) (hs : s < 64) :
    Calls Tryz.prog 69 #[.pointer (some ⟨bz, 0, none⟩), .pointer (some ⟨bx, 0, none⟩), .int .u64 s] w (IntRet w bz vz sz (nx * (2 ^ s : Nat))) := by
  have z1 := hz.abs
  have x1 := hx.abs
  have hlsh : Calls Tryz.prog 108 #[vz, vx, .int .u64 s] w.drew (NRet w.drew vz (nx * (2 ^ s : Nat)).natAbs) := by
    rw [Int.natAbs_mul, Int.natAbs_natCast]
    rcases (hx.nv.drewN 1) with ⟨_, h⟩ | ⟨b, l, ws, rfl, h2, h3, h4, h5⟩
    · omega
    · have hl : 0 < l := by rcases Nat.eq_zero_or_pos l with rfl | h; (have := (Nv.eq_zero h4 h5 h3).2 rfl; omega); exact h
      have := lsh_pos vz b l s ws (w.drewN 1) (hz.nv.zs.drewN 1) h2 h3 hl (by have := length_le_of_val h4 (k := 64) (by rw [h5]; rw [Big_eq] at hXb; exact hXb); rw [List.length_take, Nat.min_eq_left h3] at this; omega) hs0 hs (hd b (by simp [sb]))
      rw [h5] at this
      exact this
  have HS := Lib.hid hlsh
  have hn : decide (nx < 0) = decide (nx * (2 ^ s : Nat) < 0) := by
    have hp : (0 : Int) < (2 ^ s : Nat) := by have := Nat.pow_pos (n := s) (show 0 < 2 by decide); omega
    have := Int.mul_pos hpos hp
    generalize nx * ((2 ^ s : Nat) : Int) = q at *
    rw [show decide (nx < 0) = false from decide_eq_false (by omega), show decide (q < 0) = false from decide_eq_false (by omega)]
  have NB := Lib.hid hn
  have hne2 : ¬ bx = bz := fun h => hne h.symm
  clear hlsh hn hXb hd hpos
  go_enter Tryz.func69, Tryz.ntmps69
  go_wp2_with fail
  go_region_law (first | (go_simp; go_at_call 108; refine HS.out.mono ?_; rintro e w2 ⟨v', rfl, hres⟩; obtain ⟨a1, l1, c1, rfl, hl1⟩ := hres.nv.len; obtain ⟨z2, f1, z0, f0⟩ := hz.z (k := 1) hres; have x0 := hx.x hz (k := 1) hres; have FIN := Lib.hid (int_fin hz (k := 1) (n' := nx * (2 ^ s : Nat)) hres); clear hres hl1))
  all_goals
    go_wp2_with fail
    go_ret
    exact ⟨rfl, _, NB.out ▸ FIN.out⟩
end Go.Proofs.YtcpjclakdpjjfaaGreatDoor
namespace Go.Proofs.YtcpjclakdpjjfaaGreatDoor
open Go.RowKit Wd Dg
def DvRet (a : Int) (n : Nat) (w : World) (e : Ending) (w' : World) : Prop :=
  (∃ m, w' = w.drewN m) ∧ ((n < 18 ∧ e = .returned (.tuple #[.int .i64 (a.tdiv (10 ^ n : Nat)), .int .i64 (a.tmod (10 ^ n : Nat)), .bool true])) ∨ (18 ≤ n ∧ e = .returned (.tuple #[.int .i64 0, .int .i64 a, .bool false])))
theorem divByScale_calls (a : Int) (n : Nat) (w : World) (ha : i64 a) (hn : n ≤ 100000) : Calls Tryz.prog 133 #[.int .i64 a, .int .i32 n] w (DvRet a n w) := by
  rcases Nat.eq_zero_or_pos n with rfl | h0
  · go_enter Tryz.func133, Tryz.ntmps133
    go_wp2_with fail
    go_ret3
    exact ⟨⟨0, rfl⟩, .inl ⟨by decide, by simp [Int.tmod_one]⟩⟩
  · have t0 : ((n : Int) == 0) = false := by simp; omega
    rcases Nat.lt_or_ge n 18 with h18 | h18
    · have t1 : decide ((18 : Int) ≤ (n : Int)) = false := by simp; omega
      obtain ⟨T, hT⟩ : ∃ T, T = 10 ^ n := ⟨_, rfl⟩
      have hTp : 0 < T := by rw [hT]; exact Nat.pow_pos (by decide)
      have PW := pow10_calls n w (by omega)
      have hq : wrap64 (a.tdiv (T : Int)) = a.tdiv (T : Int) := by
        unfold i64 at ha
        rcases Int.lt_or_le a 0 with h | h
        · obtain ⟨m, rfl⟩ : ∃ m : Nat, a = -(m : Int) := ⟨a.natAbs, by omega⟩
          rw [Int.neg_tdiv, tdiv_cast]
          have := Nat.div_le_self m T
          generalize m / T = q at *
          unfold wrap64; omega
        · obtain ⟨m, rfl⟩ : ∃ m : Nat, a = (m : Int) := ⟨a.natAbs, by omega⟩
          rw [tdiv_cast]
          have := Nat.div_le_self m T
          generalize m / T = q at *
          unfold wrap64; omega
      rw [← hT] at PW
      have t2 : ((T : Int) == 0) = false := by simp; omega
      generalize hQ : a.tdiv (T : Int) = Q at *
      generalize hR : a.tmod (T : Int) = R at *
      have HP := Lib.hid PW
      have HF : DvRet a n w (.returned (.tuple #[.int .i64 Q, .int .i64 R, .bool true])) w := ⟨⟨0, rfl⟩, .inl ⟨h18, by rw [← hT, hQ, hR]⟩⟩
      have HF2 := Lib.hid (fun m => (show DvRet a n w (.returned (.tuple #[.int .i64 Q, .int .i64 R, .bool true])) (w.drewN m) from ⟨⟨m, rfl⟩, HF.2⟩))
      clear PW hT HF h18
      go_enter Tryz.func133, Tryz.ntmps133
      go_wp2_with fail
      refine HP.out.mono ?_
      rintro e w' ⟨rfl, rfl⟩
      go_wp2_with fail
      go_quiet (fail)
      go_wp2_with fail
      try simp only [hq]
      go_ret3
      exact HF2.out _
    · have t1 : decide ((18 : Int) ≤ (n : Int)) = true := by simp; omega
      go_enter Tryz.func133, Tryz.ntmps133
      go_wp2_with fail
      go_ret3
      exact ⟨⟨0, rfl⟩, .inr ⟨h18, rfl⟩⟩
def RfRet (a : Int) (bs : Nat) (w : World) (e : Ending) (w' : World) : Prop :=
  ∃ (r : Int) (t : Nat), e = .returned (.tuple #[.int .i64 r, .int .i32 t]) ∧ w = w' ∧ a = r * (bs ^ t : Nat) ∧ (a ≠ 0 → r % (bs : Int) ≠ 0) ∧ t ≤ 64 ∧ i64 r
theorem rf_bound {k r bs t : Nat} (hb : 2 ≤ bs) (h : k = r * bs ^ t) (hr : 0 < r) (hk : k ≤ 9223372036854775808) : t ≤ 63 := by
  rcases Nat.lt_or_ge 63 t with h1 | h1
  · exfalso
    have h2 : 2 ^ 64 ≤ bs ^ t := Nat.le_trans (Nat.pow_le_pow_left hb 64) (Nat.pow_le_pow_right (by omega) h1)
    have h3 : bs ^ t ≤ r * bs ^ t := Nat.le_mul_of_pos_left _ hr
    have h4 : (2 : Nat) ^ 64 = 18446744073709551616 := by decide
    omega
  · exact h1
/-- What is left, and how many factors were struck. -/
structure RfSt (k bs r t : Nat) : Prop where
  e : k = r * bs ^ t
  le : t ≤ 63
theorem RfSt.start (k bs : Nat) : RfSt k bs k 0 := ⟨by simp, by omega⟩
theorem RfSt.rk {k bs r t : Nat} (h : RfSt k bs r t) (hb : 2 ≤ bs) : r ≤ k := by rw [h.e]; exact Nat.le_mul_of_pos_right _ (Nat.pow_pos (by omega))
theorem wrap64_neg {r : Nat} (h : r ≤ 9223372036854775807) : wrap64 (-(r : Int)) = -(r : Int) := by unfold wrap64; omega
theorem wrap64_of {x y : Int} (h : x = y) (h1 : 0 ≤ y) (h2 : y ≤ 9223372036854775807) : wrap64 x = y := by unfold wrap64; omega
theorem rf_fin {a : Int} {bs k : Nat} (hk : k = a.natAbs) (ha : i64 a) (hmin : a ≠ -9223372036854775808) (w : World) (r t : Nat) (r' : Int) (hbs : 2 ≤ bs) (hst : RfSt k bs r t) (h2 : r' = (if a < 0 then -(r : Int) else r)) (h3 : k ≠ 0 → r % bs ≠ 0) :
    RfRet a bs w (.returned (.tuple #[.int .i64 r', .int .i32 t])) w := by
  obtain ⟨h1, ht⟩ := hst
  have hk63 : k ≤ 9223372036854775807 := by unfold i64 at ha; omega
  have hr : r ≤ k := by rw [h1]; exact Nat.le_mul_of_pos_right _ (Nat.pow_pos (by omega))
  refine ⟨r', t, rfl, rfl, ?_, ?_, by omega, ?_⟩
  · have : (k : Int) = (r : Int) * (bs ^ t : Nat) := by rw [h1, Int.natCast_mul]
    rw [h2]
    split
    · rw [Int.neg_mul, ← this]; omega
    · rw [← this]; omega
  · intro h
    have h4 := h3 (by omega)
    rw [h2]
    split
    · intro h5
      have h6 := Int.emod_emod_of_dvd (r : Int) (Int.dvd_refl (bs : Int))
      have h7 : (bs : Int) ∣ -(r : Int) := Int.dvd_of_emod_eq_zero h5
      have h8 : (bs : Int) ∣ (r : Int) := (Int.dvd_neg).1 h7
      exact h4 (Nat.mod_eq_zero_of_dvd (Int.natCast_dvd_natCast.1 h8))
    · intro h5
      exact h4 (by exact_mod_cast h5)
  · unfold i64; rw [h2]; split <;> omega
theorem rf_step {k r bs t : Nat} (hbs : 2 ≤ bs) (hk : k ≤ 9223372036854775807) (hst : RfSt k bs r t) (hr : bs ≤ r) (h0 : r % bs = 0) :
    RfSt k bs (r / bs) (t + 1) ∧ t + 1 ≤ 63 ∧ wrap64 ((r : Int) / bs) = ((r / bs : Nat) : Int) ∧ r / bs < r := by
  obtain ⟨h1, ht⟩ := hst
  have hd : r / bs * bs = r := Nat.div_mul_cancel (Nat.dvd_of_mod_eq_zero h0)
  have e : k = r / bs * bs ^ (t + 1) := by rw [Nat.pow_succ, Nat.mul_comm (bs ^ t), ← Nat.mul_assoc, hd]; exact h1
  have hp : 0 < r / bs := Nat.div_pos hr (by omega)
  have hl : r / bs < r := Nat.div_lt_self (by omega) hbs
  have hrk : r ≤ k := by rw [h1]; exact Nat.le_mul_of_pos_right _ (Nat.pow_pos (by omega))
  refine ⟨⟨e, rf_bound hbs e hp (by omega)⟩, rf_bound hbs e hp (by omega), ?_, hl⟩
  rw [← Int.natCast_ediv]
  unfold wrap64; omega
set_option maxHeartbeats 1600000 in
theorem rm10_calls (a : Int) (w : World) (ha : i64 a) (hmin : a ≠ -9223372036854775808) : Calls Tryz.prog 127 #[.int .i64 a, .int .i64 10] w (RfRet a 10 w) := by
  obtain ⟨k, hk⟩ : ∃ k : Nat, k = a.natAbs := ⟨_, rfl⟩
  have hk63 : k ≤ 9223372036854775807 := by unfold i64 at ha; omega
  by_cases hneg : a < 0
  · have t0 : decide (a < 0) = true := by simpa using hneg
    have tn : wrap64 (-a) = (k : Int) := wrap64_of (by omega) (by omega) (by omega)
    have HF := Lib.hid (fun (r t : Nat) (r' : Int) => rf_fin (bs := 10) hk ha hmin w r t r')
    have HK := Lib.hid (And.intro hk (And.intro ha (And.intro hmin hk63)))
    clear hk ha hmin hk63
    go_enter Tryz.func127, Tryz.ntmps127
    go_wp2_with fail
    go_loop [4, 5] (fun x y => ∃ r t : Nat, x = .int .i64 r ∧ y = .int .i32 t ∧ RfSt k 10 r t) (fun x _ => (intOf x).toNat)
    case atStart => exact ⟨k, 0, by first | rfl | rw [tn], rfl, .start _ _⟩
    case round =>
      obtain ⟨r, t, rfl, rfl, hkr⟩ := hrel
      have hrk : r ≤ k := hkr.rk (by decide)
      have hk63 := HK.out.2.2.2
      by_cases h1 : 10 ≤ r
      · have u1 : decide ((10 : Int) ≤ (r : Int)) = true := by simp; omega
        by_cases h2 : r % 10 = 0
        · have u2 : ((r : Int) % 10 == 0) = true := by simp; omega
          obtain ⟨k1, k2, k3, k4⟩ := rf_step (by decide) hk63 hkr h1 h2
          have HS := Lib.hid (And.intro k1 (And.intro k2 k4))
          have k3 : wrap64 ((r : Int) / 10) = ((r / 10 : Nat) : Int) := k3
          generalize r / 10 = r2 at *
          clear k1 k4 hkr h1 h2 hrk hk63
          go_wp2_with fail
          go_round
          case rel => exact ⟨r2, t + 1, by first | rfl | rw [k3], by go_num, HS.out.1⟩
          case measure => rw [k3]; simpa [intOf] using HS.out.2.2
        · have u2 : ((r : Int) % 10 == 0) = false := by simp; omega
          have u3 : wrap64 (-(r : Int)) = -(r : Int) := wrap64_neg (by omega)
          have HX := Lib.hid (And.intro hkr h2)
          clear hkr hrk hk63 h2
          go_wp2_with fail
          go_ret2
          exact HF.out r t _ (by decide) HX.out.1 (by first | rw [if_pos hneg] | (rw [if_pos hneg]; exact u3)) (fun _ => HX.out.2)
      · have u1 : decide ((10 : Int) ≤ (r : Int)) = false := by simp; omega
        have u3 : wrap64 (-(r : Int)) = -(r : Int) := wrap64_neg (by omega)
        have h2 : k ≠ 0 → r % 10 ≠ 0 := fun h => by
          rcases Nat.eq_zero_or_pos r with rfl | h3
          · have h5 := hkr.e; rw [Nat.zero_mul] at h5; exact absurd h5 h
          · rw [Nat.mod_eq_of_lt (by omega)]; omega
        have HX := Lib.hid (And.intro hkr h2)
        clear hkr hrk hk63 h2
        go_wp2_with fail
        go_ret2
        exact HF.out r t _ (by decide) HX.out.1 (by first | rw [if_pos hneg] | (rw [if_pos hneg]; exact u3)) HX.out.2
  · obtain rfl : a = (k : Int) := by omega
    have t0 : decide ((k : Int) < 0) = false := by simp
    have HF := Lib.hid (fun (r t : Nat) (r' : Int) => rf_fin (bs := 10) hk ha hmin w r t r')
    have HK := Lib.hid (And.intro hk (And.intro ha (And.intro hmin hk63)))
    clear hk ha hmin hk63
    go_enter Tryz.func127, Tryz.ntmps127
    go_wp2_with fail
    go_loop [4, 5] (fun x y => ∃ r t : Nat, x = .int .i64 r ∧ y = .int .i32 t ∧ RfSt k 10 r t) (fun x _ => (intOf x).toNat)
    case atStart => exact ⟨k, 0, by first | rfl | rw [tn], rfl, .start _ _⟩
    case round =>
      obtain ⟨r, t, rfl, rfl, hkr⟩ := hrel
      have hrk : r ≤ k := hkr.rk (by decide)
      have hk63 := HK.out.2.2.2
      by_cases h1 : 10 ≤ r
      · have u1 : decide ((10 : Int) ≤ (r : Int)) = true := by simp; omega
        by_cases h2 : r % 10 = 0
        · have u2 : ((r : Int) % 10 == 0) = true := by simp; omega
          obtain ⟨k1, k2, k3, k4⟩ := rf_step (by decide) hk63 hkr h1 h2
          have HS := Lib.hid (And.intro k1 (And.intro k2 k4))
          have k3 : wrap64 ((r : Int) / 10) = ((r / 10 : Nat) : Int) := k3
          generalize r / 10 = r2 at *
          clear k1 k4 hkr h1 h2 hrk hk63
          go_wp2_with fail
          go_round
          case rel => exact ⟨r2, t + 1, by first | rfl | rw [k3], by go_num, HS.out.1⟩
          case measure => rw [k3]; simpa [intOf] using HS.out.2.2
        · have u2 : ((r : Int) % 10 == 0) = false := by simp; omega
          have u3 : wrap64 (-(r : Int)) = -(r : Int) := wrap64_neg (by omega)
          have HX := Lib.hid (And.intro hkr h2)
          clear hkr hrk hk63 h2
          go_wp2_with fail
          go_ret2
          exact HF.out r t _ (by decide) HX.out.1 (by first | rw [if_neg (by omega)] | (rw [if_neg (by omega)]; exact u3)) (fun _ => HX.out.2)
      · have u1 : decide ((10 : Int) ≤ (r : Int)) = false := by simp; omega
        have u3 : wrap64 (-(r : Int)) = -(r : Int) := wrap64_neg (by omega)
        have h2 : k ≠ 0 → r % 10 ≠ 0 := fun h => by
          rcases Nat.eq_zero_or_pos r with rfl | h3
          · have h5 := hkr.e; rw [Nat.zero_mul] at h5; exact absurd h5 h
          · rw [Nat.mod_eq_of_lt (by omega)]; omega
        have HX := Lib.hid (And.intro hkr h2)
        clear hkr hrk hk63 h2
        go_wp2_with fail
        go_ret2
        exact HF.out r t _ (by decide) HX.out.1 (by first | rw [if_neg (by omega)] | (rw [if_neg (by omega)]; exact u3)) HX.out.2
set_option maxHeartbeats 1600000 in
theorem rm1024_calls (a : Int) (w : World) (ha : i64 a) (hmin : a ≠ -9223372036854775808) : Calls Tryz.prog 127 #[.int .i64 a, .int .i64 1024] w (RfRet a 1024 w) := by
  obtain ⟨k, hk⟩ : ∃ k : Nat, k = a.natAbs := ⟨_, rfl⟩
  have hk63 : k ≤ 9223372036854775807 := by unfold i64 at ha; omega
  by_cases hneg : a < 0
  · have t0 : decide (a < 0) = true := by simpa using hneg
    have tn : wrap64 (-a) = (k : Int) := wrap64_of (by omega) (by omega) (by omega)
    have HF := Lib.hid (fun (r t : Nat) (r' : Int) => rf_fin (bs := 1024) hk ha hmin w r t r')
    have HK := Lib.hid (And.intro hk (And.intro ha (And.intro hmin hk63)))
    clear hk ha hmin hk63
    go_enter Tryz.func127, Tryz.ntmps127
    go_wp2_with fail
    go_loop [4, 5] (fun x y => ∃ r t : Nat, x = .int .i64 r ∧ y = .int .i32 t ∧ RfSt k 1024 r t) (fun x _ => (intOf x).toNat)
    case atStart => exact ⟨k, 0, by first | rfl | rw [tn], rfl, .start _ _⟩
    case round =>
      obtain ⟨r, t, rfl, rfl, hkr⟩ := hrel
      have hrk : r ≤ k := hkr.rk (by decide)
      have hk63 := HK.out.2.2.2
      by_cases h1 : 1024 ≤ r
      · have u1 : decide ((1024 : Int) ≤ (r : Int)) = true := by simp; omega
        by_cases h2 : r % 1024 = 0
        · have u2 : ((r : Int) % 1024 == 0) = true := by simp; omega
          obtain ⟨k1, k2, k3, k4⟩ := rf_step (by decide) hk63 hkr h1 h2
          have HS := Lib.hid (And.intro k1 (And.intro k2 k4))
          have k3 : wrap64 ((r : Int) / 1024) = ((r / 1024 : Nat) : Int) := k3
          generalize r / 1024 = r2 at *
          clear k1 k4 hkr h1 h2 hrk hk63
          go_wp2_with fail
          go_round
          case rel => exact ⟨r2, t + 1, by first | rfl | rw [k3], by go_num, HS.out.1⟩
          case measure => rw [k3]; simpa [intOf] using HS.out.2.2
        · have u2 : ((r : Int) % 1024 == 0) = false := by simp; omega
          have u3 : wrap64 (-(r : Int)) = -(r : Int) := wrap64_neg (by omega)
          have HX := Lib.hid (And.intro hkr h2)
          clear hkr hrk hk63 h2
          go_wp2_with fail
          go_ret2
          exact HF.out r t _ (by decide) HX.out.1 (by first | rw [if_pos hneg] | (rw [if_pos hneg]; exact u3)) (fun _ => HX.out.2)
      · have u1 : decide ((1024 : Int) ≤ (r : Int)) = false := by simp; omega
        have u3 : wrap64 (-(r : Int)) = -(r : Int) := wrap64_neg (by omega)
        have h2 : k ≠ 0 → r % 1024 ≠ 0 := fun h => by
          rcases Nat.eq_zero_or_pos r with rfl | h3
          · have h5 := hkr.e; rw [Nat.zero_mul] at h5; exact absurd h5 h
          · rw [Nat.mod_eq_of_lt (by omega)]; omega
        have HX := Lib.hid (And.intro hkr h2)
        clear hkr hrk hk63 h2
        go_wp2_with fail
        go_ret2
        exact HF.out r t _ (by decide) HX.out.1 (by first | rw [if_pos hneg] | (rw [if_pos hneg]; exact u3)) HX.out.2
  · obtain rfl : a = (k : Int) := by omega
    have t0 : decide ((k : Int) < 0) = false := by simp
    have HF := Lib.hid (fun (r t : Nat) (r' : Int) => rf_fin (bs := 1024) hk ha hmin w r t r')
    have HK := Lib.hid (And.intro hk (And.intro ha (And.intro hmin hk63)))
    clear hk ha hmin hk63
    go_enter Tryz.func127, Tryz.ntmps127
    go_wp2_with fail
    go_loop [4, 5] (fun x y => ∃ r t : Nat, x = .int .i64 r ∧ y = .int .i32 t ∧ RfSt k 1024 r t) (fun x _ => (intOf x).toNat)
    case atStart => exact ⟨k, 0, by first | rfl | rw [tn], rfl, .start _ _⟩
    case round =>
      obtain ⟨r, t, rfl, rfl, hkr⟩ := hrel
      have hrk : r ≤ k := hkr.rk (by decide)
      have hk63 := HK.out.2.2.2
      by_cases h1 : 1024 ≤ r
      · have u1 : decide ((1024 : Int) ≤ (r : Int)) = true := by simp; omega
        by_cases h2 : r % 1024 = 0
        · have u2 : ((r : Int) % 1024 == 0) = true := by simp; omega
          obtain ⟨k1, k2, k3, k4⟩ := rf_step (by decide) hk63 hkr h1 h2
          have HS := Lib.hid (And.intro k1 (And.intro k2 k4))
          have k3 : wrap64 ((r : Int) / 1024) = ((r / 1024 : Nat) : Int) := k3
          generalize r / 1024 = r2 at *
          clear k1 k4 hkr h1 h2 hrk hk63
          go_wp2_with fail
          go_round
          case rel => exact ⟨r2, t + 1, by first | rfl | rw [k3], by go_num, HS.out.1⟩
          case measure => rw [k3]; simpa [intOf] using HS.out.2.2
        · have u2 : ((r : Int) % 1024 == 0) = false := by simp; omega
          have u3 : wrap64 (-(r : Int)) = -(r : Int) := wrap64_neg (by omega)
          have HX := Lib.hid (And.intro hkr h2)
          clear hkr hrk hk63 h2
          go_wp2_with fail
          go_ret2
          exact HF.out r t _ (by decide) HX.out.1 (by first | rw [if_neg (by omega)] | (rw [if_neg (by omega)]; exact u3)) (fun _ => HX.out.2)
      · have u1 : decide ((1024 : Int) ≤ (r : Int)) = false := by simp; omega
        have u3 : wrap64 (-(r : Int)) = -(r : Int) := wrap64_neg (by omega)
        have h2 : k ≠ 0 → r % 1024 ≠ 0 := fun h => by
          rcases Nat.eq_zero_or_pos r with rfl | h3
          · have h5 := hkr.e; rw [Nat.zero_mul] at h5; exact absurd h5 h
          · rw [Nat.mod_eq_of_lt (by omega)]; omega
        have HX := Lib.hid (And.intro hkr h2)
        clear hkr hrk hk63 h2
        go_wp2_with fail
        go_ret2
        exact HF.out r t _ (by decide) HX.out.1 (by first | rw [if_neg (by omega)] | (rw [if_neg (by omega)]; exact u3)) HX.out.2
theorem rmMin_calls (w : World) : Calls Tryz.prog 127 #[.int .i64 (-9223372036854775808), .int .i64 10] w (RfRet (-9223372036854775808) 10 w) := by
  have t1 : wrap64 9223372036854775808 = -9223372036854775808 := by unfold wrap64; omega
  go_enter Tryz.func127, Tryz.ntmps127
  go_wp2_with fail
  go_loop [4, 5] (fun x t => ∃ m : Int, x = .int .i64 m ∧ m = -9223372036854775808 ∧ t = .int .i32 0) (fun _ _ => 0)
  case atStart => exact ⟨_, rfl, by first | rfl | exact t1, rfl⟩
  case round =>
    obtain ⟨m, rfl, rfl, rfl⟩ := hrel
    go_wp2_with fail
    go_ret2
    exact ⟨_, 0, rfl, rfl, by first | decide | (rw [t1]; decide), by first | decide | (rw [t1]; decide), by decide, by first | (unfold i64; omega) | (rw [t1]; unfold i64; omega)⟩
theorem rmI_calls (a : Int) (w : World) (ha : i64 a) : Calls Tryz.prog 127 #[.int .i64 a, .int .i64 10] w (RfRet a 10 w) := by
  by_cases h : a = -9223372036854775808
  · subst h; exact rmMin_calls w
  · exact rm10_calls a w ha h
end Go.Proofs.YtcpjclakdpjjfaaGreatDoor
namespace Go.Proofs.YtcpjclakdpjjfaaGreatDoor
open Go.RowKit Wd
theorem IntRes.trans {w w1 w2 : World} {b : Nat} {v v1 v2 : Value} {s1 s2 : Option Int} {n1 n2 : Int} (h : IntRes w b v s1 n1 v1 w1) (k : IntRes w1 b v1 s2 n2 v2 w2) : IntRes w b v s2 n2 v2 w2 :=
  ⟨k.ia, h.mod.step k.mod (fun x hx => by
    rcases List.mem_cons.1 hx with rfl | hx
    · exact .inl (by simp)
    · exact (h.own x hx).imp (fun h' => by simp [h']) id), fun j hj => (k.own j hj).elim (h.own j) (fun hs => .inr (Nat.le_trans h.mod.size hs))⟩
theorem NewRes.step {w w1 w2 : World} {b : Nat} {v v2 : Value} {s s2 : Option Int} {n n2 : Int} (h : NewRes w s n b v w1) (k : IntRes w1 b v s2 n2 v2 w2) : NewRes w s2 n2 b v2 w2 :=
  ⟨k.ia, h.mod.step k.mod (fun x hx => by
    rcases List.mem_cons.1 hx with rfl | hx
    · exact .inr h.own.1
    · exact .inr (h.own.2 x hx)), h.own.1, fun j hj => (k.own j hj).elim (h.own.2 j) (fun hs => Nat.le_trans h.mod.size hs)⟩
theorem IA.setScale {w : World} {b : Nat} {s : Int} {n : Int} {v : Value} (h : IA w b (some s) n v) (c : Int) : IntRes w b v (some c) n v (w.setCell ⟨b, 2, none⟩ (.int .i32 c)) := by
  have h1 := h.hd.set 2 (.int .i32 c)
  have hb := h.not_sb h.nv.zs
  exact ⟨⟨h1, h.nv.mod ((Mod.refl [b] w).setCell (p := ⟨b, 2, none⟩) _ (.inl (by simp))) (fun j hj hx => hb (List.mem_singleton.1 hx ▸ hj)), h.lo, h.vlo⟩, (Mod.refl _ w).setCell _ (.inl (by simp)), fun j hj => .inl hj⟩
theorem new_dec (w : World) (hw : 19 ≤ w.heap.size) : NewRes w (some 0) 0 w.heap.size (.slice none 0 0) (w.alloc (.cells #[.bool false, .slice none 0 0, .int .i32 0] 123)) :=
  ⟨⟨Hd.new w 123 _, Nv.nil _, hw, by simp [sb]⟩, (Mod.refl [] w).alloc _, Nat.le_refl _, by simp [sb]⟩
set_option maxHeartbeats 400000 in
theorem dec_setScale (b : Nat) (s c : Int) (n : Int) (v : Value) (w : World) (h : IA w b (some s) n v) :
    Calls Tryz.prog 65 #[.pointer (some ⟨b, 0, none⟩), .int .i32 c] w (IntRet w b v (some c) n) := by
  have c2 := h.scale
  have f2 := h.free 2
  have F := Lib.hid (h.setScale c)
  clear h
  go_enter Tryz.func65, Tryz.ntmps65
  go_wp2_with fail
  go_ret
  exact ⟨rfl, _, F.out⟩
set_option maxHeartbeats 400000 in
theorem dec_scale (b : Nat) (s : Int) (n : Int) (v : Value) (w : World) (h : IA w b (some s) n v) :
    Calls Tryz.prog 66 #[.pointer (some ⟨b, 0, none⟩)] w fun e w' => e = .returned (.int .i32 s) ∧ w = w' := by
  have c2 := h.scale
  clear h
  go_enter Tryz.func66, Tryz.ntmps66
  go_wp2_with fail
  go_ret
  exact ⟨rfl, rfl⟩
set_option maxHeartbeats 400000 in
theorem dec_unscaledBig (b : Nat) (w : World) :
    Calls Tryz.prog 70 #[.pointer (some ⟨b, 0, none⟩)] w fun e w' => e = .returned (.pointer (some ⟨b, 0, none⟩)) ∧ w = w' := by
  go_enter Tryz.func70, Tryz.ntmps70
  go_wp2_with fail
  go_ret
  exact ⟨rfl, rfl⟩
set_option maxHeartbeats 400000 in
theorem dec_sign (b : Nat) (s : Option Int) (n : Int) (v : Value) (w : World) (h : IA w b s n v) :
    Calls Tryz.prog 73 #[.pointer (some ⟨b, 0, none⟩)] w fun e w' => e = .returned (.int .i64 (sgnI n)) ∧ w = w' := by
  have H := Lib.hid (int_sign b s n v w h)
  clear h
  go_enter Tryz.func73, Tryz.ntmps73
  go_wp2_with fail
  refine (dec_unscaledBig b w).mono ?_
  rintro e w1 ⟨rfl, rfl⟩
  go_wp2_with fail
  refine H.out.mono ?_
  rintro e w1 ⟨rfl, rfl⟩
  go_wp2_with fail
  go_ret
  exact ⟨rfl, rfl⟩
set_option maxHeartbeats 400000 in
theorem dec_setUnscaledBig (bz bx : Nat) (sz : Option Int) (n : Int) (vz : Value) (w : World) (hset : Calls Tryz.prog 109 #[.pointer (some ⟨bz, 0, none⟩), .pointer (some ⟨bx, 0, none⟩)] w (IntRet w bz vz sz n)) :
    Calls Tryz.prog 71 #[.pointer (some ⟨bz, 0, none⟩), .pointer (some ⟨bx, 0, none⟩)] w (IntRet w bz vz sz n) := by
  have H := Lib.hid hset
  clear hset
  go_enter Tryz.func71, Tryz.ntmps71
  go_wp2_with fail
  refine H.out.mono ?_
  rintro e w1 ⟨rfl, v', hr⟩
  have HR := Lib.hid hr
  clear hr
  go_wp2_with fail
  go_ret
  exact ⟨rfl, _, HR.out⟩
set_option maxHeartbeats 400000 in
theorem dec_setUnscaled (b : Nat) (s : Option Int) (n : Int) (v : Value) (x : Int) (w : World) (h : IA w b s n v) (h1 : -9223372036854775808 ≤ x) (h2 : x ≤ 9223372036854775807) :
    Calls Tryz.prog 121 #[.pointer (some ⟨b, 0, none⟩), .int .i64 x] w (IntRet w b v s x) := by
  have H := Lib.hid (int_setInt64 b s n v x w h h1 h2)
  clear h h1 h2
  go_enter Tryz.func121, Tryz.ntmps121
  go_wp2_with fail
  refine H.out.mono ?_
  rintro e w1 ⟨rfl, v', hr⟩
  have HR := Lib.hid hr
  clear hr
  go_wp2_with fail
  go_ret
  exact ⟨rfl, _, HR.out⟩
theorem info123 : ∃ j, Tryz.prog.info? 123 = some j ∧ j.size ≠ 0 := by
  obtain ⟨j, hj, hs⟩ := Option.map_eq_some_iff.1 (show (Tryz.prog.info? 123).map (·.size) = some 3 by kernel_rfl)
  exact ⟨j, hj, by rw [hs]; decide⟩
theorem dptr_neq {w : World} {b b' : Nat} {s s' : Option Int} {n n' : Int} {v v' : Value} (h : IA w b s n v) (h' : IA w b' s' n' v') :
    (binOp .neq 65 (.pointer (some ⟨b, 0, none⟩)) (.pointer (some ⟨b', 0, none⟩))).run Tryz.prog w = .ok (.bool (!decide (b = b'))) w := by
  obtain ⟨j, hj, hs⟩ := info123
  have e := ptr_neq w (a := ⟨b, 0, none⟩) (b := ⟨b', 0, none⟩) Tryz.underlying65 hj hs h.hd h'.hd
  rw [e]
  simp
set_option maxHeartbeats 800000 in
theorem dec_set (bz bx : Nat) (sz sx : Int) (nz nx : Int) (vz vx : Value) (w : World) (hz : IA w bz (some sz) nz vz) (hx : IA w bx (some sx) nx vx) (hne : bz ≠ bx) (hd : ∀ j, j ∈ sb vx → j ∉ sb vz) (hXb : nx.natAbs < Big) :
    Calls Tryz.prog 80 #[.pointer (some ⟨bz, 0, none⟩), .pointer (some ⟨bx, 0, none⟩)] w (IntRet w bz vz (some sx) nx) := by
  have hp := dptr_neq hz hx
  rw [show (!decide (bz = bx)) = true by simp [hne]] at hp
  have H := Lib.hid (dec_setUnscaledBig bz bx (some sz) nx vz w (int_set bz bx (some sz) (some sx) nz nx vz vx w hz hx hne hXb))
  go_enter Tryz.func80, Tryz.ntmps80
  go_wp2_with fail
  refine (dec_unscaledBig bx w).mono ?_
  rintro e w1 ⟨rfl, rfl⟩
  go_wp2_with fail
  refine H.out.mono ?_
  rintro e w1 ⟨rfl, v', hr⟩
  have hx1 := hr.other hx hz hne.symm hd
  have HS := Lib.hid (dec_scale bx sx nx vx w1 hx1)
  have HT := Lib.hid (dec_setScale bz sz sx nx v' w1 hr.ia)
  have HR := Lib.hid hr
  clear hr hx1
  go_wp2_with fail
  refine HS.out.mono ?_
  rintro e w1 ⟨rfl, rfl⟩
  go_wp2_with fail
  refine HT.out.mono ?_
  rintro e w3 ⟨rfl, v3, hr3⟩
  have HR3 := Lib.hid hr3
  clear hr3
  go_wp2_with fail
  go_ret
  exact ⟨rfl, _, HR.out.trans HR3.out⟩
set_option maxHeartbeats 800000 in
theorem newDec_calls (x c : Int) (w : World) (hw : 19 ≤ w.heap.size) (h1 : -9223372036854775808 ≤ x) (h2 : x ≤ 9223372036854775807) :
    Calls Tryz.prog 81 #[.int .i64 x, .int .i32 c] w (NewRet w (some c) x) := by
  have hn := new_dec w hw
  have H1 := Lib.hid (dec_setUnscaled _ _ _ _ x _ hn.ia h1 h2)
  have HN := Lib.hid hn
  clear hn hw h1 h2
  go_enter Tryz.func81, Tryz.ntmps81
  go_wp2_with fail
  refine H1.out.mono ?_
  rintro e w1 ⟨rfl, v', hr⟩
  have H2 := Lib.hid (dec_setScale _ 0 c x v' w1 hr.ia)
  have HR := Lib.hid hr
  clear hr
  go_wp2_with fail
  refine H2.out.mono ?_
  rintro e w3 ⟨rfl, v3, hr3⟩
  have HR3 := Lib.hid hr3
  clear hr3
  go_wp2_with fail
  go_ret
  exact ⟨_, _, rfl, HN.out.step (HR.out.trans HR3.out)⟩
set_option maxHeartbeats 800000 in
theorem newDecBig_calls (bx : Nat) (sx : Option Int) (nx c : Int) (vx : Value) (w : World) (hw : 19 ≤ w.heap.size) (hx : IA w bx sx nx vx) (hXb : nx.natAbs < Big) :
    Calls Tryz.prog 193 #[.pointer (some ⟨bx, 0, none⟩), .int .i32 c] w (NewRet w (some c) nx) := by
  have hn := new_dec w hw
  have ha := hn.apart hx
  have H1 := Lib.hid (dec_setUnscaledBig _ bx _ nx _ _ (int_set _ bx _ sx 0 nx _ vx _ hn.ia ha.2.2 ha.1.symm hXb))
  have HN := Lib.hid hn
  clear hn hw ha
  go_enter Tryz.func193, Tryz.ntmps193
  go_wp2_with fail
  refine H1.out.mono ?_
  rintro e w1 ⟨rfl, v', hr⟩
  have H2 := Lib.hid (dec_setScale _ 0 c nx v' w1 hr.ia)
  have HR := Lib.hid hr
  clear hr
  go_wp2_with fail
  refine H2.out.mono ?_
  rintro e w3 ⟨rfl, v3, hr3⟩
  have HR3 := Lib.hid hr3
  clear hr3
  go_wp2_with fail
  go_ret
  exact ⟨_, _, rfl, HN.out.step (HR.out.trans HR3.out)⟩
end Go.Proofs.YtcpjclakdpjjfaaGreatDoor
namespace Go.Proofs.YtcpjclakdpjjfaaGreatDoor
open Go.RowKit Wd Dg
/-- An amount as a value. -/
def amt (v s : Int) : Value := .agg #[.int .i64 v, .int .i32 s]
set_option maxHeartbeats 800000 in
theorem amtAsDec (v s : Int) (w : World) (hw : 19 ≤ w.heap.size) (hv : i64 v) (h1 : -100000 ≤ s) (h2 : s ≤ 100000) : Calls Tryz.prog 129 #[amt v s] w (NewRet w (some (-s)) v) := by
  unfold amt
  have hsz : (w.alloc (.cells #[.int .i64 v, .int .i32 s] 64)).heap.size = w.heap.size + 1 := by simp
  have ma : Mod [] w (w.alloc (.cells #[.int .i64 v, .int .i32 s] 64)) := (Mod.refl [] w).alloc _
  have hbx := Hd.new w 64 #[.int .i64 v, .int .i32 s]
  have nd := new_dec (w.alloc (.cells #[.int .i64 v, .int .i32 s] 64)) (by rw [hsz]; omega)
  rw [hsz] at nd
  have hbx2 := hbx.mod nd.mod (by simp)
  have SU := Lib.hid (dec_setUnscaled _ (some 0) 0 _ v _ nd.ia hv.1 hv.2)
  obtain ⟨ns, hns⟩ : ∃ ns, ns = -s := ⟨_, rfl⟩
  have tneg : wrap32 (-s) = ns := by rw [hns]; unfold wrap32; omega
  have H0 := Lib.hid (And.intro ma (And.intro hbx2 (And.intro nd hns)))
  clear ma hbx hbx2 nd hns hv h1 h2 hsz
  go_enter Tryz.func129, Tryz.ntmps129
  go_wp2_with fail
  refine SU.out.mono ?_
  rintro e w2 ⟨rfl, v', hr⟩
  have c1 := (H0.out.2.1.mod hr.mod (by simp [sb])).cell (i := 1) (v := .int .i32 s) rfl
  have SS := Lib.hid (dec_setScale _ _ ns v v' w2 hr.ia)
  have HR := Lib.hid hr
  clear hr SU
  go_wp2_with fail
  refine SS.out.mono ?_
  rintro e w3 ⟨rfl, v'', hr2⟩
  have HR2 := Lib.hid hr2
  clear hr2 SS
  go_wp2_with fail
  go_ret
  obtain ⟨k1, k2, k3, k4⟩ := H0.out
  have hh := (k3.step HR.out).step HR2.out
  rw [k4] at hh
  exact ⟨_, _, rfl, hh.ia, k1.trans hh.mod, by have := hh.own.1; simp at this; omega, fun k hk => by have := hh.own.2 k hk; simp at this; omega⟩
def AsScRet (v s c : Int) (w : World) (e : Ending) (w' : World) : Prop :=
  Mod [] w w' ∧ ((c ≤ s ∧ e = .returned (.tuple #[amt v s, .bool true])) ∨ ∃ k : Nat, c = s + k ∧ 0 < k ∧ e = .returned (.tuple #[amt (up v (10 ^ k)) c, .bool (!nsF v k)]))
set_option maxHeartbeats 800000 in
theorem amtAsScale (v s c : Int) (w : World) (hv : i64 v) (h1 : -10000 ≤ s) (h2 : s ≤ 10000) (h3 : -10000 ≤ c) (h4 : c ≤ 10000) : Calls Tryz.prog 87 #[amt v s, .int .i32 c] w (AsScRet v s c w) := by
  have ma : ∀ o o', Mod [] w ((w.alloc o).alloc o') := fun o o' => ((Mod.refl [] w).alloc o).alloc o'
  have HM := Lib.hid ma
  clear ma
  unfold amt
  by_cases hle : c ≤ s
  · have t1 : decide (c ≤ s) = true := by simpa using hle
    go_enter Tryz.func87, Tryz.ntmps87
    go_wp2_with fail
    go_returns
    refine ⟨?_, .inl ⟨hle, rfl⟩⟩
    first | exact HM.out _ _ | exact (HM.out _ _).setCell _ (.inr (by simp)) | exact ((HM.out _ _).setCell _ (.inr (by simp))).setCell _ (.inr (by simp))
  · have t1 : decide (c ≤ s) = false := by simpa using hle
    obtain ⟨k, hk⟩ : ∃ k : Nat, c = s + k := ⟨(c - s).toNat, by omega⟩
    have tk : wrap32 (c - s) = (k : Int) := by unfold wrap32; omega
    have NS := Lib.hid (fun w => negativeScale_calls v k w hv (by omega))
    have HK := Lib.hid (And.intro hk (show 0 < k by omega))
    clear hv h1 h2 h3 h4 hk hle
    go_enter Tryz.func87, Tryz.ntmps87
    go_wp2_with fail
    refine (NS.out _).mono ?_
    rintro e w2 ⟨rfl, rfl⟩
    have HU := Lib.hid (fun w' (m : Mod [] w w') => (show AsScRet v s c w (.returned (.tuple #[.agg #[.int .i64 (up v (10 ^ k)), .int .i32 c], .bool (!nsF v k)])) w' from ⟨m, .inr ⟨k, HK.out.1, HK.out.2, rfl⟩⟩))
    generalize up v (10 ^ k) = U at *
    generalize (!nsF v k) = F at *
    go_wp2_with fail
    go_returns
    refine HU.out _ ?_
    first | exact HM.out _ _ | exact (HM.out _ _).setCell _ (.inr (by simp)) | exact ((HM.out _ _).setCell _ (.inr (by simp))).setCell _ (.inr (by simp))
end Go.Proofs.YtcpjclakdpjjfaaGreatDoor
