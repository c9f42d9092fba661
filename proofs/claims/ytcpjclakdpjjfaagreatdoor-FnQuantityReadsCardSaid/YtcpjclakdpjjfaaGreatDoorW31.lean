/- The suffixer as it is made (resource/suffix.go: newSuffixer). Lookups in the suffixer's tables (resource/suffix.go: lookup, constructBytes of a list). The suffix of an exponent (strconv.AppendInt into a row's room; resource/suffix.go: constructBytes). -/
import Derived.Test.YtcpjclakdpjjfaaGreatDoorW30
import Derived.LaidEqlPtr
namespace Go.Proofs.YtcpjclakdpjjfaaGreatDoor
open Go.RowKit Wd
abbrev TL1 := List (ByteArray × (Int × Int))
abbrev TL3 := List ((Int × Int) × List UInt8)
def i32p (x y : Int) : Prop := (-2147483648 : Int) ≤ x ∧ x ≤ 2147483647 ∧ (-2147483648 : Int) ≤ y ∧ y ≤ 2147483647
/-- The binary suffixes alone. -/
def PA (w0 w : World) (b : Nat) (L1 : TL1) (L3 : TL3) : Prop :=
  Mod [] w0 w ∧ w0.heap.size ≤ b ∧ ∃ cs R, Hd w b 164 cs ∧ (∀ k, k ∈ R → w0.heap.size ≤ k) ∧ (∀ i, i < 3 → cs[i]? = some (.map none)) ∧ LS w b 3 cs R L1 L3
/-- Both lists. -/
def PB (w0 w : World) (b : Nat) (L1 : TL1) (L3 : TL3) (D1 : TL1) (D3 : TL3) : Prop :=
  Mod [] w0 w ∧ w0.heap.size ≤ b ∧ ∃ cs R R', Hd w b 164 cs ∧ (∀ k, k ∈ R → w0.heap.size ≤ k) ∧ (∀ k, k ∈ R' → w0.heap.size ≤ k) ∧ (∀ k, k ∈ R → k ∉ R') ∧ LS w b 3 cs R L1 L3 ∧ LS w b 0 cs R' D1 D3
theorem PA.start (w : World) (s : ByteArray) (x y : Int) (kx : i32p x y) (hs : s.size ≤ maxLen) :
    Calls Tryz.prog 101 #[.pointer (some ⟨w.heap.size, 3, none⟩), .string s, .agg #[.int .i32 x, .int .i32 y]] (w.alloc (.cells #[.map none, .map none, .map none, .map none, .map none, .map none] 164)) fun e w' => e = .returned (.tuple #[]) ∧ PA w w' w.heap.size [(s, (x, y))] [((x, y), s.data.toList)] := by
  have hd := Hd.new w 164 #[.map none, .map none, .map none, .map none, .map none, .map none]
  have m0 : Mod [] w (w.alloc (.cells #[.map none, .map none, .map none, .map none, .map none, .map none] 164)) := (Mod.refl [] w).alloc _
  refine (LS.first hd rfl rfl rfl s x y kx hs).mono ?_
  rintro e w' ⟨rfl, cs, R, m, h1, h2, h3, h4⟩
  refine ⟨rfl, m0.step m (fun k hk => .inr (by rw [List.mem_singleton.1 hk]; exact Nat.le_refl _)), Nat.le_refl _, cs, R, h2, fun k hk => ?_, fun i hi => ?_, h4⟩
  · have := h1 k hk
    have := m0.size
    omega
  · rw [h3 i (.inl hi)]
    rcases i with _ | _ | _ | i
    · rfl
    · rfl
    · rfl
    · omega
theorem PA.add {w0 w : World} {b : Nat} {L1 : TL1} {L3 : TL3} (h : PA w0 w b L1 L3) (s : ByteArray) (x y : Int) (kx : i32p x y) (hs : s.size ≤ maxLen) :
    Calls Tryz.prog 101 #[.pointer (some ⟨b, 3, none⟩), .string s, .agg #[.int .i32 x, .int .i32 y]] w fun e w' => e = .returned (.tuple #[]) ∧ PA w0 w' b ((s, (x, y)) :: L1) (((x, y), s.data.toList) :: L3) := by
  obtain ⟨m0, hb, cs, R, h1, h2, h3, h4⟩ := h
  refine (h4.add h1 s x y kx hs).mono ?_
  rintro e w' ⟨rfl, m, h5⟩
  exact ⟨rfl, m0.step m (fun k hk => .inr (h2 k hk)), hb, cs, R, h1.mod m (h4.off h1), h2, h3, h5⟩
theorem PA.turn {w0 w : World} {b : Nat} {L1 : TL1} {L3 : TL3} (h : PA w0 w b L1 L3) (s : ByteArray) (x y : Int) (kx : i32p x y) (hs : s.size ≤ maxLen) :
    Calls Tryz.prog 101 #[.pointer (some ⟨b, 0, none⟩), .string s, .agg #[.int .i32 x, .int .i32 y]] w fun e w' => e = .returned (.tuple #[]) ∧ PB w0 w' b L1 L3 [(s, (x, y))] [((x, y), s.data.toList)] := by
  obtain ⟨m0, hb, cs, R, h1, h2, h3, h4⟩ := h
  refine (LS.first h1 (h3 0 (by omega)) (h3 1 (by omega)) (h3 2 (by omega)) s x y kx hs).mono ?_
  rintro e w' ⟨rfl, cs', R', m, g1, g2, g3, g4⟩
  have hRw : ∀ k, k ∈ R → k < w.heap.size := fun k hk => by
    obtain ⟨es, c, q⟩ := h4.maps k hk
    exact lt_of_heap q
  refine ⟨rfl, m0.step m (fun k hk => .inr (by rw [List.mem_singleton.1 hk]; exact hb)), hb, cs', R, R', g2, h2, fun k hk => Nat.le_trans m0.size (g1 k hk), fun k hk hk' => ?_, ?_, g4⟩
  · have := hRw k hk
    have := g1 k hk'
    omega
  · refine h4.mod m (fun k hk => ?_) (fun i hi => g3 _ (.inr (by omega)))
    rw [List.mem_singleton.1 hk]
    exact ⟨h4.off h1, .inl (by omega)⟩
theorem PB.add {w0 w : World} {b : Nat} {L1 : TL1} {L3 : TL3} {D1 : TL1} {D3 : TL3} (h : PB w0 w b L1 L3 D1 D3) (s : ByteArray) (x y : Int) (kx : i32p x y) (hs : s.size ≤ maxLen) :
    Calls Tryz.prog 101 #[.pointer (some ⟨b, 0, none⟩), .string s, .agg #[.int .i32 x, .int .i32 y]] w fun e w' => e = .returned (.tuple #[]) ∧ PB w0 w' b L1 L3 ((s, (x, y)) :: D1) (((x, y), s.data.toList) :: D3) := by
  obtain ⟨m0, hb, cs, R, R', h1, h2, h3, h6, h4, h5⟩ := h
  refine (h5.add h1 s x y kx hs).mono ?_
  rintro e w' ⟨rfl, m, g1⟩
  exact ⟨rfl, m0.step m (fun k hk => .inr (h3 k hk)), hb, cs, R, R', h1.mod m (h5.off h1), h2, h3, h6, h4.mod m (fun k hk => ⟨fun hk' => h6 k hk' hk, .inr (h5.maps k hk)⟩) (fun _ _ => rfl), g1⟩
def binL1 : TL1 := [(⟨#[69, 105]⟩, (2, 60)), (⟨#[80, 105]⟩, (2, 50)), (⟨#[84, 105]⟩, (2, 40)), (⟨#[71, 105]⟩, (2, 30)), (⟨#[77, 105]⟩, (2, 20)), (⟨#[75, 105]⟩, (2, 10))]
def binL3 : TL3 := [((2, 60), [69, 105]), ((2, 50), [80, 105]), ((2, 40), [84, 105]), ((2, 30), [71, 105]), ((2, 20), [77, 105]), ((2, 10), [75, 105])]
def decL1 : TL1 := [(⟨#[69]⟩, (10, 18)), (⟨#[80]⟩, (10, 15)), (⟨#[84]⟩, (10, 12)), (⟨#[71]⟩, (10, 9)), (⟨#[77]⟩, (10, 6)), (⟨#[107]⟩, (10, 3)), (⟨#[]⟩, (10, 0)), (⟨#[109]⟩, (10, (-3))), (⟨#[117]⟩, (10, (-6))), (⟨#[110]⟩, (10, (-9))), (⟨#[]⟩, (2, 0))]
def decL3 : TL3 := [((10, 18), [69]), ((10, 15), [80]), ((10, 12), [84]), ((10, 9), [71]), ((10, 6), [77]), ((10, 3), [107]), ((10, 0), []), ((10, (-3)), [109]), ((10, (-6)), [117]), ((10, (-9)), [110]), ((2, 0), [])]
theorem i32p_of {x y : Int} (h : (decide ((-2147483648 : Int) ≤ x) && decide (x ≤ 2147483647) && decide ((-2147483648 : Int) ≤ y) && decide (y ≤ 2147483647)) = true) : i32p x y := by
  simp only [Bool.and_eq_true, decide_eq_true_eq] at h
  exact ⟨h.1.1.1, h.1.1.2, h.1.2, h.2⟩
theorem small_of {s : ByteArray} (h : decide (s.size ≤ 2) = true) : s.size ≤ maxLen := by
  have : (2 : Nat) ≤ maxLen := by decide
  have := of_decide_eq_true h
  omega
set_option maxRecDepth 20000 in
set_option maxHeartbeats 4000000 in
theorem newSuffixer_calls (w : World) : Calls Tryz.prog 60 #[] w fun e w' => ∃ b, e = .returned (.iface 169 (.agg #[.pointer (some ⟨b, 0, none⟩)])) ∧ PB w w' b binL1 binL3 decL1 decL3 := by
  go_enter Tryz.func60, Tryz.ntmps60
  go_wp2_with fail
  refine (PA.start w ⟨#[75, 105]⟩ 2 10 (i32p_of (by decide)) (small_of (by decide))).mono ?_
  generalize w.heap.size = b
  rintro _ w1 ⟨rfl, h⟩
  have H := Lib.hid h
  clear h
  go_wp2_with fail
  refine (H.out.add ⟨#[77, 105]⟩ 2 20 (i32p_of (by decide)) (small_of (by decide))).mono ?_
  clear H
  rintro _ w2 ⟨rfl, h⟩
  have H := Lib.hid h
  clear h
  go_wp2_with fail
  refine (H.out.add ⟨#[71, 105]⟩ 2 30 (i32p_of (by decide)) (small_of (by decide))).mono ?_
  clear H
  rintro _ w3 ⟨rfl, h⟩
  have H := Lib.hid h
  clear h
  go_wp2_with fail
  refine (H.out.add ⟨#[84, 105]⟩ 2 40 (i32p_of (by decide)) (small_of (by decide))).mono ?_
  clear H
  rintro _ w4 ⟨rfl, h⟩
  have H := Lib.hid h
  clear h
  go_wp2_with fail
  refine (H.out.add ⟨#[80, 105]⟩ 2 50 (i32p_of (by decide)) (small_of (by decide))).mono ?_
  clear H
  rintro _ w5 ⟨rfl, h⟩
  have H := Lib.hid h
  clear h
  go_wp2_with fail
  refine (H.out.add ⟨#[69, 105]⟩ 2 60 (i32p_of (by decide)) (small_of (by decide))).mono ?_
  clear H
  rintro _ w6 ⟨rfl, h⟩
  have H := Lib.hid h
  clear h
  go_wp2_with fail
  refine (H.out.turn ⟨#[]⟩ 2 0 (i32p_of (by decide)) (small_of (by decide))).mono ?_
  clear H
  rintro _ w7 ⟨rfl, h⟩
  have H := Lib.hid h
  clear h
  go_wp2_with fail
  refine (H.out.add ⟨#[110]⟩ 10 (-9) (i32p_of (by decide)) (small_of (by decide))).mono ?_
  clear H
  rintro _ w8 ⟨rfl, h⟩
  have H := Lib.hid h
  clear h
  go_wp2_with fail
  refine (H.out.add ⟨#[117]⟩ 10 (-6) (i32p_of (by decide)) (small_of (by decide))).mono ?_
  clear H
  rintro _ w9 ⟨rfl, h⟩
  have H := Lib.hid h
  clear h
  go_wp2_with fail
  refine (H.out.add ⟨#[109]⟩ 10 (-3) (i32p_of (by decide)) (small_of (by decide))).mono ?_
  clear H
  rintro _ w10 ⟨rfl, h⟩
  have H := Lib.hid h
  clear h
  go_wp2_with fail
  refine (H.out.add ⟨#[]⟩ 10 0 (i32p_of (by decide)) (small_of (by decide))).mono ?_
  clear H
  rintro _ w11 ⟨rfl, h⟩
  have H := Lib.hid h
  clear h
  go_wp2_with fail
  refine (H.out.add ⟨#[107]⟩ 10 3 (i32p_of (by decide)) (small_of (by decide))).mono ?_
  clear H
  rintro _ w12 ⟨rfl, h⟩
  have H := Lib.hid h
  clear h
  go_wp2_with fail
  refine (H.out.add ⟨#[77]⟩ 10 6 (i32p_of (by decide)) (small_of (by decide))).mono ?_
  clear H
  rintro _ w13 ⟨rfl, h⟩
  have H := Lib.hid h
  clear h
  go_wp2_with fail
  refine (H.out.add ⟨#[71]⟩ 10 9 (i32p_of (by decide)) (small_of (by decide))).mono ?_
  clear H
  rintro _ w14 ⟨rfl, h⟩
  have H := Lib.hid h
  clear h
  go_wp2_with fail
  refine (H.out.add ⟨#[84]⟩ 10 12 (i32p_of (by decide)) (small_of (by decide))).mono ?_
  clear H
  rintro _ w15 ⟨rfl, h⟩
  have H := Lib.hid h
  clear h
  go_wp2_with fail
  refine (H.out.add ⟨#[80]⟩ 10 15 (i32p_of (by decide)) (small_of (by decide))).mono ?_
  clear H
  rintro _ w16 ⟨rfl, h⟩
  have H := Lib.hid h
  clear h
  go_wp2_with fail
  refine (H.out.add ⟨#[69]⟩ 10 18 (i32p_of (by decide)) (small_of (by decide))).mono ?_
  clear H
  rintro _ w17 ⟨rfl, h⟩
  have H := Lib.hid h
  clear h
  go_wp2_with fail
  go_ret
  exact ⟨b, rfl, H.out⟩
end Go.Proofs.YtcpjclakdpjjfaaGreatDoor
namespace Go.Proofs.YtcpjclakdpjjfaaGreatDoor
open Go.RowKit Wd
theorem zero167 (w : World) : (zeroValue 167).run Tryz.prog w = .ok (.agg #[.int .i32 0, .int .i32 0]) w := by kernel_rfl
theorem zero79 (w : World) : (zeroValue 79).run Tryz.prog w = .ok (.slice none 0 0) w := by kernel_rfl
theorem ls_lookup {w : World} {b o : Nat} {cs : Array Value} {R : List Nat} {L1 : TL1} {L3 : TL3} (h : LS w b o cs R L1 L3) (hd : Hd w b 164 cs) (s : ByteArray) (hs : s.size ≤ maxLen) :
    Calls Tryz.prog 333 #[.pointer (some ⟨b, o, none⟩), .string s] w fun e w' => e = .returned (match look L1 s with | some p => .tuple #[.int .i32 p.1, .int .i32 p.2, .bool true] | none => .tuple #[.int .i32 0, .int .i32 0, .bool false]) ∧ Mod [] w w' := by
  obtain ⟨r1, r2, r3, f1, f3, rfl, h1, h2, h3, m1, m2, m3, d1, d2, d3, t1, t3⟩ := h
  obtain ⟨ks, hks⟩ := key_text hs
  have e1 := m1.lookup Tryz.underlying158 kl111 (zero167 w) hks
  have c1 := hd.cell h1
  rw [t1 s] at e1
  clear hd h1 h2 h3 m1 m2 m3 d1 d2 d3 t1 t3 hs hks
  cases hl : look L1 s with
  | none =>
    rw [hl] at e1
    simp only [Option.map_none, Option.getD_none, Option.isSome_none] at e1
    clear hl
    go_enter Tryz.func333, Tryz.ntmps333
    go_wp2_with fail
    go_ret3
    exact ⟨rfl, (Mod.refl [] w).alloc _⟩
  | some p =>
    rw [hl] at e1
    obtain ⟨x, y⟩ := p
    simp only [Option.map_some, Option.getD_some, Option.isSome_some, pr] at e1
    clear hl
    go_enter Tryz.func333, Tryz.ntmps333
    go_wp2_with fail
    have hn := Hd.new w 167 #[.int .i32 x, .int .i32 y]
    have n0 := hn.cell (i := 0) (v := .int .i32 x) rfl
    have n1 := hn.cell (i := 1) (v := .int .i32 y) rfl
    have M : Mod [] w (w.alloc (.cells #[.int .i32 x, .int .i32 y] 167)) := (Mod.refl [] w).alloc _
    generalize w.heap.size = g at *
    generalize w.alloc (.cells #[.int .i32 x, .int .i32 y] 167) = W at *
    clear hn e1 c1
    go_quiet (fail)
    go_wp2_with fail
    go_ret3
    exact ⟨rfl, M.drewN _⟩
theorem ls_bytes {w : World} {b o : Nat} {cs : Array Value} {R : List Nat} {L1 : TL1} {L3 : TL3} (h : LS w b o cs R L1 L3) (hd : Hd w b 164 cs) (x y : Int) (kx : i32p x y) :
    Calls Tryz.prog 332 #[.pointer (some ⟨b, o, none⟩), .int .i32 x, .int .i32 y] w fun e w' => w' = w ∧ ∃ V, e = .returned (.tuple #[V, .bool (look L3 (x, y)).isSome]) ∧ Rb w (b + 1) V ((look L3 (x, y)).getD []) := by
  obtain ⟨r1, r2, r3, f1, f3, rfl, h1, h2, h3, m1, m2, m3, d1, d2, d3, t1, t3⟩ := h
  obtain ⟨kl, hkl⟩ := key_pair kx.1 kx.2.1 kx.2.2.1 kx.2.2.2
  have e1 := m3.lookup Tryz.underlying160 kl167 (zero79 w) hkl
  have c1 := hd.cell h3
  have T := t3 (x, y)
  unfold pr at T
  clear hd h1 h2 h3 m1 m2 m3 d1 d2 d3 t1 t3 hkl
  cases hl : look L3 (x, y) with
  | none =>
    rw [hl] at T
    simp only [] at T
    rw [T] at e1
    simp only [Option.getD_none, Option.isSome_none] at e1
    clear hl T
    go_enter Tryz.func332, Tryz.ntmps332
    go_wp2_with fail
    go_ret2
    exact ⟨rfl, _, rfl, .inl ⟨rfl, rfl⟩⟩
  | some t =>
    rw [hl] at T
    obtain ⟨V, T1, T2⟩ := T
    simp only [] at T1
    rw [T1] at e1
    simp only [Option.getD_some, Option.isSome_some] at e1
    replace T2 := Lib.hid T2
    clear hl T1
    go_enter Tryz.func332, Tryz.ntmps332
    go_wp2_with fail
    go_ret2
    exact ⟨rfl, _, rfl, T2.out⟩
end Go.Proofs.YtcpjclakdpjjfaaGreatDoor
namespace Go.Proofs.YtcpjclakdpjjfaaGreatDoor
open Go.RowKit Wd
def eight (a b c d : Int) : Array Value := #[.int .u8 a, .int .u8 b, .int .u8 c, .int .u8 d, .int .u8 0, .int .u8 0, .int .u8 0, .int .u8 0]
theorem pe286 (g : Nat) (w : World) : (binOp .eql 286 (.pointer (some ⟨g, 1, none⟩)) (.pointer (some ⟨g, 1, none⟩))).run Tryz.prog w = .ok (.bool true) w := by
  obtain ⟨i, hi, -⟩ := Option.map_eq_some_iff.1 info5
  exact run_eql_ptr_same w _ Tryz.underlying286 hi
def at2 (w : World) (g : Nat) (a b c d : Int) : Prop := Hd w g 5 (eight a b c d)
theorem at2.cells {w : World} {g : Nat} {a b c d : Int} (h : at2 w g a b c d) : w.cell? ⟨g, 0, none⟩ = some (.int .u8 a) ∧ w.cell? ⟨g, 1, none⟩ = some (.int .u8 b) ∧ w.cell? ⟨g, 2, none⟩ = some (.int .u8 c) ∧ w.cell? ⟨g, 3, none⟩ = some (.int .u8 d) ∧ ∀ i, w.frozen? ⟨g, i, none⟩ = false :=
  ⟨Hd.cell h (i := 0) rfl, Hd.cell h (i := 1) rfl, Hd.cell h (i := 2) rfl, Hd.cell h (i := 3) rfl, Hd.free h⟩
theorem at2.mod {S : List Nat} {w w' : World} {g : Nat} {a b c d : Int} (h : at2 w g a b c d) (m : Mod S w w') (hg : g ∉ S) : at2 w' g a b c d := Hd.mod h m hg
theorem mod_g {w : World} {g : Nat} (i : Nat) (v : Value) : Mod [g] w (w.setCell ⟨g, i, none⟩ v) := (Mod.refl [g] w).setCell _ (.inl (by simp))
theorem au1 (g u : Nat) (p : UInt8) (w : World) (hu : u < 100) (hd : Lib.decDigits u = [p]) (h : at2 w g 101 0 0 0) :
    Calls Tryz.prog 198 #[.slice (some ⟨g, 1, none⟩) 0 7, .int .u64 u, .int .i64 10] w fun e w' => e = .returned (.slice (some ⟨g, 1, none⟩) 1 7) ∧ at2 w' g 101 p.toNat 0 0 ∧ Mod [g] w w' := by
  obtain ⟨c0, c1, c2, c3, fr⟩ := h.cells
  have sm := Tryz.internal_strconv_small u hu
  rw [hd] at sm
  have t1 : decide ((u : Int) < 100) = true := by simp; omega
  have t2 : wrap64 (u : Int) = u := by unfold wrap64; omega
  replace h := Lib.hid h
  clear hd hu
  go_enter Tryz.func198, Tryz.ntmps198
  go_wp2_with fail
  refine (sm w).mono ?_
  rintro _ _ ⟨rfl, rfl⟩
  go_wp2_with fail
  go_ret
  exact ⟨rfl, Hd.set (h.out) 1 (.int .u8 (p.toNat : Int)), mod_g _ _⟩
theorem au2 (g u : Nat) (p q : UInt8) (w : World) (hu : u < 100) (hd : Lib.decDigits u = [p, q]) (h : at2 w g 101 0 0 0) :
    Calls Tryz.prog 198 #[.slice (some ⟨g, 1, none⟩) 0 7, .int .u64 u, .int .i64 10] w fun e w' => e = .returned (.slice (some ⟨g, 1, none⟩) 2 7) ∧ at2 w' g 101 p.toNat q.toNat 0 ∧ Mod [g] w w' := by
  obtain ⟨c0, c1, c2, c3, fr⟩ := h.cells
  have sm := Tryz.internal_strconv_small u hu
  rw [hd] at sm
  have t1 : decide ((u : Int) < 100) = true := by simp; omega
  have t2 : wrap64 (u : Int) = u := by unfold wrap64; omega
  replace h := Lib.hid h
  clear hd hu
  go_enter Tryz.func198, Tryz.ntmps198
  go_wp2_with fail
  refine (sm w).mono ?_
  rintro _ _ ⟨rfl, rfl⟩
  go_wp2_with fail
  go_ret
  exact ⟨rfl, Hd.set (Hd.set (h.out) 1 (.int .u8 (p.toNat : Int))) 2 (.int .u8 (q.toNat : Int)), Mod.trans (mod_g _ _) (mod_g _ _)⟩
theorem au3 (g u : Nat) (p : UInt8) (w : World) (hu : u < 100) (hd : Lib.decDigits u = [p]) (h : at2 w g 101 45 0 0) :
    Calls Tryz.prog 198 #[.slice (some ⟨g, 1, none⟩) 1 7, .int .u64 u, .int .i64 10] w fun e w' => e = .returned (.slice (some ⟨g, 1, none⟩) 2 7) ∧ at2 w' g 101 45 p.toNat 0 ∧ Mod [g] w w' := by
  obtain ⟨c0, c1, c2, c3, fr⟩ := h.cells
  have sm := Tryz.internal_strconv_small u hu
  rw [hd] at sm
  have t1 : decide ((u : Int) < 100) = true := by simp; omega
  have t2 : wrap64 (u : Int) = u := by unfold wrap64; omega
  replace h := Lib.hid h
  clear hd hu
  go_enter Tryz.func198, Tryz.ntmps198
  go_wp2_with fail
  refine (sm w).mono ?_
  rintro _ _ ⟨rfl, rfl⟩
  go_wp2_with fail
  go_ret
  exact ⟨rfl, Hd.set (h.out) 2 (.int .u8 (p.toNat : Int)), mod_g _ _⟩
theorem ai1 (g u : Nat) (p : UInt8) (w : World) (hu : u < 100) (h0 : 0 < u) (hd : Lib.decDigits u = [p]) (h : at2 w g 101 0 0 0) :
    Calls Tryz.prog 163 #[.slice (some ⟨g, 1, none⟩) 0 7, .int .i64 (u : Int), .int .i64 10] w fun e w' => e = .returned (.slice (some ⟨g, 1, none⟩) 1 7) ∧ at2 w' g 101 p.toNat 0 0 ∧ Mod [g] w w' := by
  have t1 : decide ((u : Int) < 0) = false := by simp
  have t2 : wrap64 (u : Int) = u := by unfold wrap64; omega
  have t3 : IntKind.u64.wrap (u : Int) = u := by rw [IntKind.wrap_u64]; omega
  have C := Lib.hid (au1 g u p w hu hd h)
  clear hd hu h h0
  go_enter Tryz.func163, Tryz.ntmps163
  go_wp2_with fail
  refine C.out.mono ?_
  rintro _ w2 ⟨rfl, hr⟩
  replace hr := Lib.hid hr
  go_wp2_with fail
  go_ret
  exact ⟨rfl, hr.out⟩
theorem ai2 (g u : Nat) (p q : UInt8) (w : World) (hu : u < 100) (h0 : 0 < u) (hd : Lib.decDigits u = [p, q]) (h : at2 w g 101 0 0 0) :
    Calls Tryz.prog 163 #[.slice (some ⟨g, 1, none⟩) 0 7, .int .i64 (u : Int), .int .i64 10] w fun e w' => e = .returned (.slice (some ⟨g, 1, none⟩) 2 7) ∧ at2 w' g 101 p.toNat q.toNat 0 ∧ Mod [g] w w' := by
  have t1 : decide ((u : Int) < 0) = false := by simp
  have t2 : wrap64 (u : Int) = u := by unfold wrap64; omega
  have t3 : IntKind.u64.wrap (u : Int) = u := by rw [IntKind.wrap_u64]; omega
  have C := Lib.hid (au2 g u p q w hu hd h)
  clear hd hu h h0
  go_enter Tryz.func163, Tryz.ntmps163
  go_wp2_with fail
  refine C.out.mono ?_
  rintro _ w2 ⟨rfl, hr⟩
  replace hr := Lib.hid hr
  go_wp2_with fail
  go_ret
  exact ⟨rfl, hr.out⟩
theorem ai3 (g u : Nat) (p : UInt8) (w : World) (hu : u < 100) (h0 : 0 < u) (hd : Lib.decDigits u = [p]) (h : at2 w g 101 0 0 0) :
    Calls Tryz.prog 163 #[.slice (some ⟨g, 1, none⟩) 0 7, .int .i64 (-(u : Int)), .int .i64 10] w fun e w' => e = .returned (.slice (some ⟨g, 1, none⟩) 2 7) ∧ at2 w' g 101 45 p.toNat 0 ∧ Mod [g] w w' := by
  obtain ⟨m, hm⟩ : ∃ m : Nat, m = 18446744073709551616 - u := ⟨_, rfl⟩
  have t1 : decide (-(u : Int) < 0) = true := by simp; omega
  have t5 : decide (0 < u) = true := by simpa using h0
  have t3 : IntKind.u64.wrap (-(u : Int)) = m := by rw [IntKind.wrap_u64]; omega
  have t4 : IntKind.u64.wrap (-(m : Int)) = u := by rw [IntKind.wrap_u64]; omega
  obtain ⟨c0, c1, c2, c3, fr⟩ := h.cells
  have hlt := Hd.lt h
  have hW : at2 ((w.setCell ⟨g, 1, none⟩ (.int .u8 45)).alloc (.cells #[.int .u8 45] 5)) g 101 45 0 0 := Hd.mod (Hd.set h 1 (.int .u8 45)) ((Mod.refl [] _).alloc _) (by simp)
  have mW : Mod [g] w ((w.setCell ⟨g, 1, none⟩ (.int .u8 45)).alloc (.cells #[.int .u8 45] 5)) := (mod_g _ _).alloc _
  have hb := h.mod ((Mod.refl [] w).alloc (.cells #[.int .u8 45] 5)) (by simp)
  obtain ⟨b0, b1, b2, b3, fb⟩ := hb.cells
  have C := Lib.hid (And.intro mW (au3 g u p _ hu hd hW))
  clear hd hu h h0 hW hb mW hm
  go_enter Tryz.func163, Tryz.ntmps163
  go_wp2_with fail
  refine C.out.2.mono ?_
  rintro _ w2 ⟨rfl, hr⟩
  replace hr := Lib.hid hr
  go_wp2_with fail
  go_ret
  exact ⟨rfl, hr.out.1, C.out.1.trans hr.out.2⟩
theorem mk8 (w : World) : (Instr.makeSlice 79 (.int .i64 8) (.int .i64 8)).run Tryz.prog w = .ok (.slice (some ⟨w.heap.size, 0, none⟩) 8 8) (w.alloc (.cells #[.int .u8 0, .int .u8 0, .int .u8 0, .int .u8 0, .int .u8 0, .int .u8 0, .int .u8 0, .int .u8 0] 5)) := by kernel_rfl
theorem ai131 {s i V : Value} {w : World} {Q : World → Prop} (h : Calls Tryz.prog 163 #[s, i, .int .i64 10] w fun e w' => e = .returned V ∧ Q w') : Calls Tryz.prog 131 #[s, i, .int .i64 10] w fun e w' => e = .returned V ∧ Q w' := by
  have C := Lib.hid h
  clear h
  go_enter Tryz.func131, Tryz.ntmps131
  go_wp2_with fail
  refine C.out.mono ?_
  rintro _ w2 ⟨rfl, hr⟩
  replace hr := Lib.hid hr
  go_wp2_with fail
  go_ret
  exact ⟨rfl, hr.out⟩
set_option maxRecDepth 10000 in
theorem cb1 (b u : Nat) (p : UInt8) (w : World) (hu : u < 100) (h0 : 0 < u) (hd : Lib.decDigits u = [p]) :
    Calls Tryz.prog 330 #[.pointer (some ⟨b, 0, none⟩), .int .i32 10, .int .i32 (u : Int), .string ⟨#[68,101,99,105,109,97,108,69,120,112,111,110,101,110,116]⟩] w fun e w' => ∃ V, e = .returned (.tuple #[V, .bool true]) ∧ Rb w' w.heap.size V [101, p] ∧ Mod [] w w' := by
  have hW : at2 (w.alloc (.cells #[.int .u8 101, .int .u8 0, .int .u8 0, .int .u8 0, .int .u8 0, .int .u8 0, .int .u8 0, .int .u8 0] 5)) w.heap.size 101 0 0 0 := Hd.new w 5 (eight 101 0 0 0)
  have mW : Mod [] w (w.alloc (.cells #[.int .u8 101, .int .u8 0, .int .u8 0, .int .u8 0, .int .u8 0, .int .u8 0, .int .u8 0, .int .u8 0] 5)) := (Mod.refl [] w).alloc _
  have C := Lib.hid (And.intro mW (ai131 (ai1 w.heap.size u p _ hu h0 hd hW)))
  have t1 : ((u : Int) == 0) = false := by simp; omega
  have t2 : wrap64 (u : Int) = (u : Int) := by unfold wrap64; omega
  have mk := mk8 w
  have fr := (Hd.new w 5 (eight 0 0 0 0)).free
  have e0 : (w.alloc (.cells #[.int .u8 0, .int .u8 0, .int .u8 0, .int .u8 0, .int .u8 0, .int .u8 0, .int .u8 0, .int .u8 0] 5)).cell? ⟨w.heap.size, 0, none⟩ = some (.int .u8 0) := (Hd.new w 5 (eight 0 0 0 0)).cell rfl
  clear hd hu h0 hW mW
  go_enter Tryz.func330, Tryz.ntmps330
  go_wp2_with fail
  clear mk fr e0
  obtain ⟨mW, C⟩ := C.out
  replace mW := Lib.hid mW
  generalize hg : w.heap.size = g at *
  generalize w.alloc (.cells #[.int .u8 101, .int .u8 0, .int .u8 0, .int .u8 0, .int .u8 0, .int .u8 0, .int .u8 0, .int .u8 0] 5) = W at *
  refine C.mono ?_
  clear C
  have pe := pe286 g
  rintro _ w2 ⟨rfl, hr⟩
  replace hr := Lib.hid (And.intro hr hg)
  clear hg
  go_wp2_with fail
  go_quiet (fail)
  go_wp2_with fail
  go_ret2
  obtain ⟨⟨h1, h2⟩, hg⟩ := hr.out
  refine ⟨_, rfl, .inr ⟨g, 8, _, _, _, rfl, Nat.le_of_eq hg, Hd.mod h1 ((Mod.refl [] w2).drewN _) (by simp), fun i hi => ?_⟩, (mW.out.step h2 (fun k hk => .inr (by rw [List.mem_singleton.1 hk, hg]; exact Nat.le_refl _))).drewN _⟩
  match i, hi with
  | 0, _ => rfl
  | 1, _ => rfl
  | i + 2, hi => simp at hi; omega
set_option maxRecDepth 10000 in
theorem cb2 (b u : Nat) (p q : UInt8) (w : World) (hu : u < 100) (h0 : 0 < u) (hd : Lib.decDigits u = [p, q]) :
    Calls Tryz.prog 330 #[.pointer (some ⟨b, 0, none⟩), .int .i32 10, .int .i32 (u : Int), .string ⟨#[68,101,99,105,109,97,108,69,120,112,111,110,101,110,116]⟩] w fun e w' => ∃ V, e = .returned (.tuple #[V, .bool true]) ∧ Rb w' w.heap.size V [101, p, q] ∧ Mod [] w w' := by
  have hW : at2 (w.alloc (.cells #[.int .u8 101, .int .u8 0, .int .u8 0, .int .u8 0, .int .u8 0, .int .u8 0, .int .u8 0, .int .u8 0] 5)) w.heap.size 101 0 0 0 := Hd.new w 5 (eight 101 0 0 0)
  have mW : Mod [] w (w.alloc (.cells #[.int .u8 101, .int .u8 0, .int .u8 0, .int .u8 0, .int .u8 0, .int .u8 0, .int .u8 0, .int .u8 0] 5)) := (Mod.refl [] w).alloc _
  have C := Lib.hid (And.intro mW (ai131 (ai2 w.heap.size u p q _ hu h0 hd hW)))
  have t1 : ((u : Int) == 0) = false := by simp; omega
  have t2 : wrap64 (u : Int) = (u : Int) := by unfold wrap64; omega
  have mk := mk8 w
  have fr := (Hd.new w 5 (eight 0 0 0 0)).free
  have e0 : (w.alloc (.cells #[.int .u8 0, .int .u8 0, .int .u8 0, .int .u8 0, .int .u8 0, .int .u8 0, .int .u8 0, .int .u8 0] 5)).cell? ⟨w.heap.size, 0, none⟩ = some (.int .u8 0) := (Hd.new w 5 (eight 0 0 0 0)).cell rfl
  clear hd hu h0 hW mW
  go_enter Tryz.func330, Tryz.ntmps330
  go_wp2_with fail
  clear mk fr e0
  obtain ⟨mW, C⟩ := C.out
  replace mW := Lib.hid mW
  generalize hg : w.heap.size = g at *
  generalize w.alloc (.cells #[.int .u8 101, .int .u8 0, .int .u8 0, .int .u8 0, .int .u8 0, .int .u8 0, .int .u8 0, .int .u8 0] 5) = W at *
  refine C.mono ?_
  clear C
  have pe := pe286 g
  rintro _ w2 ⟨rfl, hr⟩
  replace hr := Lib.hid (And.intro hr hg)
  clear hg
  go_wp2_with fail
  go_quiet (fail)
  go_wp2_with fail
  go_ret2
  obtain ⟨⟨h1, h2⟩, hg⟩ := hr.out
  refine ⟨_, rfl, .inr ⟨g, 8, _, _, _, rfl, Nat.le_of_eq hg, Hd.mod h1 ((Mod.refl [] w2).drewN _) (by simp), fun i hi => ?_⟩, (mW.out.step h2 (fun k hk => .inr (by rw [List.mem_singleton.1 hk, hg]; exact Nat.le_refl _))).drewN _⟩
  match i, hi with
  | 0, _ => rfl
  | 1, _ => rfl
  | 2, _ => rfl
  | i + 3, hi => simp at hi; omega
set_option maxRecDepth 10000 in
theorem cb3 (b u : Nat) (p : UInt8) (w : World) (hu : u < 100) (h0 : 0 < u) (hd : Lib.decDigits u = [p]) :
    Calls Tryz.prog 330 #[.pointer (some ⟨b, 0, none⟩), .int .i32 10, .int .i32 (-(u : Int)), .string ⟨#[68,101,99,105,109,97,108,69,120,112,111,110,101,110,116]⟩] w fun e w' => ∃ V, e = .returned (.tuple #[V, .bool true]) ∧ Rb w' w.heap.size V [101, 45, p] ∧ Mod [] w w' := by
  have hW : at2 (w.alloc (.cells #[.int .u8 101, .int .u8 0, .int .u8 0, .int .u8 0, .int .u8 0, .int .u8 0, .int .u8 0, .int .u8 0] 5)) w.heap.size 101 0 0 0 := Hd.new w 5 (eight 101 0 0 0)
  have mW : Mod [] w (w.alloc (.cells #[.int .u8 101, .int .u8 0, .int .u8 0, .int .u8 0, .int .u8 0, .int .u8 0, .int .u8 0, .int .u8 0] 5)) := (Mod.refl [] w).alloc _
  have C := Lib.hid (And.intro mW (ai131 (ai3 w.heap.size u p _ hu h0 hd hW)))
  have t1 : ((-(u : Int)) == 0) = false := by simp; omega
  have t2 : wrap64 (-(u : Int)) = (-(u : Int)) := by unfold wrap64; omega
  have mk := mk8 w
  have fr := (Hd.new w 5 (eight 0 0 0 0)).free
  have e0 : (w.alloc (.cells #[.int .u8 0, .int .u8 0, .int .u8 0, .int .u8 0, .int .u8 0, .int .u8 0, .int .u8 0, .int .u8 0] 5)).cell? ⟨w.heap.size, 0, none⟩ = some (.int .u8 0) := (Hd.new w 5 (eight 0 0 0 0)).cell rfl
  clear hd hu h0 hW mW
  go_enter Tryz.func330, Tryz.ntmps330
  go_wp2_with fail
  clear mk fr e0
  obtain ⟨mW, C⟩ := C.out
  replace mW := Lib.hid mW
  generalize hg : w.heap.size = g at *
  generalize w.alloc (.cells #[.int .u8 101, .int .u8 0, .int .u8 0, .int .u8 0, .int .u8 0, .int .u8 0, .int .u8 0, .int .u8 0] 5) = W at *
  refine C.mono ?_
  clear C
  have pe := pe286 g
  rintro _ w2 ⟨rfl, hr⟩
  replace hr := Lib.hid (And.intro hr hg)
  clear hg
  go_wp2_with fail
  go_quiet (fail)
  go_wp2_with fail
  go_ret2
  obtain ⟨⟨h1, h2⟩, hg⟩ := hr.out
  refine ⟨_, rfl, .inr ⟨g, 8, _, _, _, rfl, Nat.le_of_eq hg, Hd.mod h1 ((Mod.refl [] w2).drewN _) (by simp), fun i hi => ?_⟩, (mW.out.step h2 (fun k hk => .inr (by rw [List.mem_singleton.1 hk, hg]; exact Nat.le_refl _))).drewN _⟩
  match i, hi with
  | 0, _ => rfl
  | 1, _ => rfl
  | 2, _ => rfl
  | i + 3, hi => simp at hi; omega
end Go.Proofs.YtcpjclakdpjjfaaGreatDoor
