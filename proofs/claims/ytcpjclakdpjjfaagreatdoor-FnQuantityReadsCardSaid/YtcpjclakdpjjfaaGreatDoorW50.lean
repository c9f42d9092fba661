/- What the listed variables give (the row's condition): cells, a table, io.EOF. A word as an argument: opened and shut. From the walk of FnQuantityReads to its row. -/
import Derived.Test.YtcpjclakdpjjfaaGreatDoorRows
import Derived.ProofKit
import Derived.LaidMore
import Derived.LaidLaws
import Derived.Lay
import Derived.OpenShut
import Derived.Stop.Joined
import Derived.Lib.SmallJoins
import Derived.Lib.LaidTab
import Derived.Shelf.Strconv.AppendIntPublic10
import Derived.Test.YtcpjclakdpjjfaaGreatDoorTie
import Derived.Test.YtcpjclakdpjjfaaGreatDoorW49
import Derived.Below
import Derived.SevenTiedAt
namespace Go.Proofs.YtcpjclakdpjjfaaGreatDoor
open Go.ChangeShapes Go.WideShapes Go.RowKit
theorem laid_at {P : Program} {w : World} : ∀ {l : List (String × DataW Unit)} {ps : List MemPlace}, DataW.LaidVars P w l ps → ∀ {n : String} {d : DataW Unit}, (n, d) ∈ l →
    ∃ g t cs fuel p, P.globalNamed n = some g ∧ (P.globals[g]?).map (·.type) = some t ∧ w.var? P n = some cs ∧ DataW.trod (fun _ => ()) P w 0 (fun _ => true) false fuel t cs.toList = some (d, p) ∧ ∀ x, x ∈ MemPlace.row ⟨g, 0, none⟩ cs.size ++ p → x ∈ ps
  | [], _, _, _, _, hm => by cases hm
  | (n', d') :: r, ps, h, n, d, hm => by
    obtain ⟨g, t, cs, fuel, p, q, h1, h2, h3, h4, h5, h6⟩ := h
    rcases List.mem_cons.1 hm with e | hm
    · obtain ⟨rfl, rfl⟩ := Prod.mk.inj e
      exact ⟨g, t, cs, fuel, p, h1, h2, h3, h4, fun x hx => by rw [h6]; exact List.mem_append_left _ hx⟩
    · obtain ⟨g', t', cs', f', p', k1, k2, k3, k4, k5⟩ := laid_at h5 hm
      exact ⟨g', t', cs', f', p', k1, k2, k3, k4, fun x hx => by rw [h6]; exact List.mem_append_right _ (k5 x hx)⟩
/-- A listed int. -/
theorem laid_int {w : World} {l : List (String × DataW Unit)} {ps : List MemPlace} (h : DataW.LaidVars Tryz.prog w l ps) {n : String} {g : Nat} {t : TypeId} {k : IntKind} {x : Int} (hm : (n, (.lit (.int k x) : DataW Unit)) ∈ l) (hg : Tryz.prog.globalNamed n = some g) (ht : (Tryz.prog.globals[g]?).map (·.type) = some t) (hu : Tryz.prog.underlying t = some (.int k)) :
    w.cell? ⟨g, 0, none⟩ = some (.int k x) := by
  obtain ⟨g', t', cs, fuel, p, h1, h2, h3, h4, -⟩ := laid_at h hm
  obtain rfl := Option.some.inj (hg.symm.trans h1)
  obtain rfl := Option.some.inj (ht.symm.trans h2)
  obtain ⟨z, e1, e2, _⟩ := DataW.trod_int hu h4
  have := World.var?_cell h1 h3 0
  have hz : z = x := by
    have := (Prod.mk.inj e2).1
    simpa using this.symm
  rw [this]
  obtain ⟨ll⟩ := cs
  simp only at e1
  rw [← hz]
  simp [e1]
/-- A listed table of integers. -/
theorem laid_tab {w : World} {l : List (String × DataW Unit)} {ps : List MemPlace} (h : DataW.LaidVars Tryz.prog w l ps) {n : String} {g m : Nat} {t e : TypeId} {k : IntKind} {zs : List Int} (hm : (n, (Lib.tabData k zs : DataW Unit)) ∈ l) (hg : Tryz.prog.globalNamed n = some g) (hty : (Tryz.prog.globals[g]?).map (·.type) = some t) (ht : Tryz.prog.underlying t = some (.array m e)) (he : Tryz.prog.underlying e = some (.int k)) (hce : Tryz.prog.cellsOf e = 1) (hct : Tryz.prog.cellsOf t = m) :
    Lib.TabIs Tryz.prog w n k zs := by
  obtain ⟨g', t', cs, fuel, p, h1, h2, h3, h4, -⟩ := laid_at h hm
  obtain rfl := Option.some.inj (hg.symm.trans h1)
  obtain rfl := Option.some.inj (hty.symm.trans h2)
  unfold Lib.TabIs
  rw [h3, ← Lib.cells_of_tab ht he hce hct h4]
theorem row260 (u : TypeId) (h : Tryz.prog.typeName? 3 u = some "*errors.errorString") : u = 260 :=
  typeName_ptr_named (nm := "errors.errorString") (by kernel_rfl) (by kernel_rfl) (by decide) u h
/-- What the walks want of the listed variables. -/
structure LaidEnv (w : World) : Prop where
  g6 : w.cell? ⟨6, 0, none⟩ = some (.int .i64 12)
  g7 : w.cell? ⟨7, 0, none⟩ = some (.int .i64 80)
  g8 : w.cell? ⟨8, 0, none⟩ = some (.int .i64 40)
  g12 : w.cell? ⟨12, 0, none⟩ = some (.int .i64 8)
  g16 : w.cell? ⟨16, 0, none⟩ = some (.int .i64 40)
  big : 19 ≤ w.heap.size
  tab : Lib.TabIs Tryz.prog w "internal/strconv.uint64pow10" .u64 Lib.pow10Tab
  eof : ∃ a : Addr, w.cell? ⟨3, 0, none⟩ = some (.iface 260 (.pointer (some a)))
set_option maxRecDepth 100000 in
theorem laid_env {w : World} (h : laidMetH Tryz.prog Rows.fnQuantityReadsRow.laid w) : LaidEnv w := by
  rw [MakeChecks.laidMetH_plain _ _ _ (by kernel_rfl)] at h
  obtain ⟨ps, hl, hnd, hrows⟩ := h
  have g18 : Lib.TabIs Tryz.prog w "math/bits.deBruijn64tab" .u8 [0, 1, 56, 2, 57, 49, 28, 3, 61, 58, 42, 50, 38, 29, 17, 4, 62, 47, 59, 36, 45, 43, 51, 22, 53, 39, 33, 30, 24, 18, 12, 5, 63, 55, 48, 27, 60, 41, 37, 16, 46, 35, 44, 21, 52, 32, 23, 11, 54, 26, 40, 15, 34, 20, 31, 10, 25, 14, 19, 9, 13, 8, 7, 6] :=
    laid_tab (g := 18) (t := 358) (m := 64) (e := 5) hl (List.mem_of_getElem? (i := 1) (by kernel_rfl)) (by kernel_rfl) (by kernel_rfl) (by kernel_rfl) (by kernel_rfl) (by kernel_rfl) (by kernel_rfl)
  have c18 := Lib.TabIs.cell g18 (show Tryz.prog.globalNamed "math/bits.deBruijn64tab" = some 18 by kernel_rfl) 0 (by decide)
  refine ⟨?_, ?_, ?_, ?_, ?_, ?_, ?_, ?_⟩
  · exact laid_int (n := "pub-stockroom/pub/bigall.basicSqrThreshold") (t := 3) hl (List.mem_of_getElem? (i := 12) (by kernel_rfl)) (by kernel_rfl) (by kernel_rfl) (by kernel_rfl)
  · exact laid_int (n := "pub-stockroom/pub/bigall.karatsubaSqrThreshold") (t := 3) hl (List.mem_of_getElem? (i := 13) (by kernel_rfl)) (by kernel_rfl) (by kernel_rfl) (by kernel_rfl)
  · exact laid_int (n := "pub-stockroom/pub/bigall.karatsubaThreshold") (t := 3) hl (List.mem_of_getElem? (i := 11) (by kernel_rfl)) (by kernel_rfl) (by kernel_rfl) (by kernel_rfl)
  · exact laid_int (n := "pub-stockroom/pub/bigall.leafSize") (t := 3) hl (List.mem_of_getElem? (i := 9) (by kernel_rfl)) (by kernel_rfl) (by kernel_rfl) (by kernel_rfl)
  · exact laid_int (n := "pub-stockroom/pub/bigall.divRecursiveThreshold") (t := 3) hl (List.mem_of_getElem? (i := 10) (by kernel_rfl)) (by kernel_rfl) (by kernel_rfl) (by kernel_rfl)
  · have := World.block_lt_of_cell? w _ c18
    exact this
  · exact laid_tab (g := 13) (t := 346) (m := 20) (e := 96) hl (List.mem_of_getElem? (i := 2) (by kernel_rfl)) (by kernel_rfl) (by kernel_rfl) (by kernel_rfl) (by kernel_rfl) (by kernel_rfl) (by kernel_rfl)
  · obtain ⟨g', t', cs, fuel, p, h1, h2, h3, h4, h5⟩ := laid_at hl (n := "io.EOF") (d := Rows.laid_io_EOF) (List.mem_of_getElem? (i := 6) (by kernel_rfl))
    obtain rfl := Option.some.inj ((show Tryz.prog.globalNamed "io.EOF" = some 3 by kernel_rfl).symm.trans h1)
    obtain rfl := Option.some.inj ((show (Tryz.prog.globals[3]?).map (·.type) = some 72 by kernel_rfl).symm.trans h2)
    have hsz : 0 < cs.size := by
      obtain ⟨_, u, v, e, -⟩ := iface_of_trod Tryz.underlying72 h4
      have := congrArg List.length e
      simp at this
      omega
    have hok : ∀ u v, cs.toList = [.iface u v] → Value.okWide Tryz.prog w .any 0 u v := fun u v e => by
      refine (hrows 3 0 (h5 _ (List.mem_append_left _ ?_))).2 u v ?_
      · exact MemPlace.mem_row.2 ⟨0, hsz, rfl⟩
      · rw [World.var?_cell h1 h3 0]
        obtain ⟨ll⟩ := cs
        simp only at e
        rw [e]; rfl
    obtain ⟨a, s, e, -⟩ := errorString_of_trod Tryz.underlying72 row260 Tryz.underlying260 Tryz.underlying262 rfl rfl Tryz.underlying9 (by kernel_rfl) (by kernel_rfl) h4 hok
    refine ⟨a, ?_⟩
    rw [World.var?_cell h1 h3 0]
    obtain ⟨ll⟩ := cs
    simp only at e
    rw [e]; rfl
end Go.Proofs.YtcpjclakdpjjfaaGreatDoor
namespace Go.Proofs.YtcpjclakdpjjfaaGreatDoor
open Go.ChangeShapes Go.WideShapes Go.RowKit
/-- What an argument of a word's type holds. -/
structure WdFit (sign : Int) (num : ByteArray) (den : ByteArray) (kind place ps : Int) (pow : ByteArray) : Prop where
  f0 : (Lit.int .i64 sign).wf = true
  f1 : num.size ≤ maxLen
  f3 : den.size ≤ maxLen
  f4 : (Lit.int .i64 kind).wf = true
  f5 : (Lit.int .i64 place).wf = true
  f7 : (Lit.int .i64 ps).wf = true
  f8 : pow.size ≤ maxLen
/-- A word as a datum. -/
def wdat {H : Type} (sign : Int) (num : ByteArray) (dot : Bool) (den : ByteArray) (kind place : Int) (up : Bool) (ps : Int) (pow : ByteArray) : DataW H :=
  .agg [.lit (.int .i64 sign), .lit (.string num.data.toList), .lit (.bool dot), .lit (.string den.data.toList), .lit (.int .i64 kind), .lit (.int .i64 place), .lit (.bool up), .lit (.int .i64 ps), .lit (.string pow.data.toList)]
theorem array9 {α : Type} {cs : Array α} (h : cs.size = 9) : ∃ c0 c1 c2 c3 c4 c5 c6 c7 c8, cs = #[c0, c1, c2, c3, c4, c5, c6, c7, c8] := by
  obtain ⟨l⟩ := cs
  match l, h with
  | [c0, c1, c2, c3, c4, c5, c6, c7, c8], _ => exact ⟨c0, c1, c2, c3, c4, c5, c6, c7, c8, rfl⟩
theorem list9 {α : Type} {l : List α} (h : l.length = 9) : ∃ c0 c1 c2 c3 c4 c5 c6 c7 c8, l = [c0, c1, c2, c3, c4, c5, c6, c7, c8] := by
  match l, h with
  | [c0, c1, c2, c3, c4, c5, c6, c7, c8], _ => exact ⟨c0, c1, c2, c3, c4, c5, c6, c7, c8, rfl⟩
theorem cells3 : Tryz.prog.cellsOf 3 = 1 := by kernel_rfl
theorem cells4 : Tryz.prog.cellsOf 4 = 1 := by kernel_rfl
theorem cells9 : Tryz.prog.cellsOf 9 = 1 := by kernel_rfl
theorem cells23 : Tryz.prog.cellsOf 23 = 9 := by kernel_rfl
section
variable {H : Type} {enc : TypeId × Value → H}
set_option maxRecDepth 100000 in
theorem word_open {W : World} {r : Reach} {b0 base : Nat} {sp : Nat → Bool} {held : Bool} {v : Value} {d : DataW H} {p : List MemPlace} (hv : Value.okWide Tryz.prog W r b0 23 v) (h : DataW.Trod enc Tryz.prog W base sp held 23 v d p) :
    ∃ sign num dot den kind place up ps pow, v = .agg #[.int .i64 sign, .string num, .bool dot, .string den, .int .i64 kind, .int .i64 place, .bool up, .int .i64 ps, .string pow] ∧ WdFit sign num den kind place ps pow ∧ d = wdat sign num dot den kind place up ps pow ∧ p = [] := by
  obtain ⟨cs, rfl, hsz⟩ := okWide_struct Tryz.underlying23 hv
  obtain ⟨c0, c1, c2, c3, c4, c5, c6, c7, c8, rfl⟩ := array9 (hsz.trans cells23)
  obtain ⟨fuel, hf⟩ := h
  obtain ⟨xs, n, _, hx, _, hlen, hel⟩ := DataW.trod_struct Tryz.underlying23 hf
  obtain ⟨y0, y1, y2, y3, y4, y5, y6, y7, y8, rfl⟩ := list9 hlen
  have e0 : DataW.trod enc Tryz.prog W base sp held n 3 [c0] = some y0 := by have := hel 0 _ rfl; simpa [Value.cells, cells3] using this
  have e1 : DataW.trod enc Tryz.prog W base sp held n 9 [c1] = some y1 := by have := hel 1 _ rfl; simpa [Value.cells, cells9] using this
  have e2 : DataW.trod enc Tryz.prog W base sp held n 4 [c2] = some y2 := by have := hel 2 _ rfl; simpa [Value.cells, cells4] using this
  have e3 : DataW.trod enc Tryz.prog W base sp held n 9 [c3] = some y3 := by have := hel 3 _ rfl; simpa [Value.cells, cells9] using this
  have e4 : DataW.trod enc Tryz.prog W base sp held n 3 [c4] = some y4 := by have := hel 4 _ rfl; simpa [Value.cells, cells3] using this
  have e5 : DataW.trod enc Tryz.prog W base sp held n 3 [c5] = some y5 := by have := hel 5 _ rfl; simpa [Value.cells, cells3] using this
  have e6 : DataW.trod enc Tryz.prog W base sp held n 4 [c6] = some y6 := by have := hel 6 _ rfl; simpa [Value.cells, cells4] using this
  have e7 : DataW.trod enc Tryz.prog W base sp held n 3 [c7] = some y7 := by have := hel 7 _ rfl; simpa [Value.cells, cells3] using this
  have e8 : DataW.trod enc Tryz.prog W base sp held n 9 [c8] = some y8 := by have := hel 8 _ rfl; simpa [Value.cells, cells9] using this
  obtain ⟨sign, k0, rfl, w0⟩ := DataW.trod_int Tryz.underlying3 e0
  obtain ⟨num, k1, rfl, w1⟩ := DataW.trod_string Tryz.underlying9 e1
  obtain ⟨dot, k2, rfl⟩ := DataW.trod_bool Tryz.underlying4 e2
  obtain ⟨den, k3, rfl, w3⟩ := DataW.trod_string Tryz.underlying9 e3
  obtain ⟨kind, k4, rfl, w4⟩ := DataW.trod_int Tryz.underlying3 e4
  obtain ⟨place, k5, rfl, w5⟩ := DataW.trod_int Tryz.underlying3 e5
  obtain ⟨up, k6, rfl⟩ := DataW.trod_bool Tryz.underlying4 e6
  obtain ⟨ps, k7, rfl, w7⟩ := DataW.trod_int Tryz.underlying3 e7
  obtain ⟨pow, k8, rfl, w8⟩ := DataW.trod_string Tryz.underlying9 e8
  simp only [List.cons.injEq, and_true] at k0 k1 k2 k3 k4 k5 k6 k7 k8
  subst k0 k1 k2 k3 k4 k5 k6 k7 k8
  simp only [Prod.mk.injEq] at hx
  exact ⟨sign, num, dot, den, kind, place, up, ps, pow, rfl, ⟨w0, w1, w3, w4, w5, w7, w8⟩, hx.1, hx.2⟩
set_option maxRecDepth 100000 in
theorem word_shut {sign : Int} {num : ByteArray} {den : ByteArray} {kind place ps : Int} {pow : ByteArray} (h : WdFit sign num den kind place ps pow) (dot up : Bool) (W : World) (base : Nat) (sp : Nat → Bool) (held : Bool) :
    DataW.Trod enc Tryz.prog W base sp held 23 (.agg #[.int .i64 sign, .string num, .bool dot, .string den, .int .i64 kind, .int .i64 place, .bool up, .int .i64 ps, .string pow]) (wdat sign num dot den kind place up ps pow) [] := by
  have hs : ∀ s : ByteArray, s.size ≤ maxLen → DataW.trod enc Tryz.prog W base sp held 1 9 [.string s] = some (.lit (.string s.data.toList), []) := fun s hs => by
    simp [DataW.trod, Tryz.underlying9, hs]
  have hb : ∀ b : Bool, DataW.trod enc Tryz.prog W base sp held 1 4 [.bool b] = some (.lit (.bool b), []) := fun b => by simp [DataW.trod, Tryz.underlying4]
  have hi : ∀ x : Int, (Lit.int .i64 x).wf = true → DataW.trod enc Tryz.prog W base sp held 1 3 [.int .i64 x] = some (.lit (.int .i64 x), []) := fun x hx => trod_int_mk 0 Tryz.underlying3 hx
  have := trod_struct_mk (enc := enc) (w := W) (base := base) (spare := sp) (held := held) (n := 1) (cs := [.int .i64 sign, .string num, .bool dot, .string den, .int .i64 kind, .int .i64 place, .bool up, .int .i64 ps, .string pow])
    (xs := [(.lit (.int .i64 sign), []), (.lit (.string num.data.toList), []), (.lit (.bool dot), []), (.lit (.string den.data.toList), []), (.lit (.int .i64 kind), []), (.lit (.int .i64 place), []), (.lit (.bool up), []), (.lit (.int .i64 ps), []), (.lit (.string pow.data.toList), [])]) Tryz.underlying23 (by rw [cells23]; rfl)
    (by simp [cells3, cells4, cells9, hs, hb, hi, h.f0, h.f1, h.f3, h.f4, h.f5, h.f7, h.f8])
  exact ⟨2, by simpa [Value.cells, wdat] using this⟩
end
end Go.Proofs.YtcpjclakdpjjfaaGreatDoor
namespace Go.Proofs.YtcpjclakdpjjfaaGreatDoor
open Go.ChangeShapes Go.WideShapes Go.ChangeAt Go.RowKit
theorem ownK : ownKnob Tryz.prog.godebug = none := by kernel_rfl
/-- A law of one word, walked. -/
def Walk1 (f : FuncId) : Prop := ∀ (sign : Int) (num : ByteArray) (dot : Bool) (den : ByteArray) (kind place : Int) (up : Bool) (ps : Int) (pow : ByteArray) (w : World), LaidEnv w →
    Calls Tryz.prog f #[.agg #[.int .i64 sign, .string num, .bool dot, .string den, .int .i64 kind, .int .i64 place, .bool up, .int .i64 ps, .string pow]] w fun e w' => e = .returned (.bool true) ∧ Below w.heap.size w w'
set_option maxRecDepth 100000 in
theorem reads_lifted (walk : Walk1 3) (os : Os) (started : os.Started) (H : Type) (enc : TypeId × Value → H) :
    ReturnsInHanded {} Tryz.checked os 3 .any (fun w args => (Rows.fnQuantityReadsSpec.pre enc Tryz.prog Tryz.f3 [] false w args ∧ laidMetH Tryz.prog Rows.fnQuantityReadsRow.laid w) ∧ sizedMet enc Tryz.prog Tryz.f3 (OpenSpec.ofChange Rows.fnQuantityReadsSpec) false w args)
      (Rows.fnQuantityReadsSpec.post enc Tryz.prog Tryz.f3 false true false false) := by
  refine returnsInHanded_of_change_and (C := Tryz.checked) (X := fun w _ => laidMetH Tryz.prog Rows.fnQuantityReadsRow.laid w) (fun _ _ _ hh h => h.of_heap hh) ownK started (by kernel_rfl) Tryz.func3
    (ChangeSpec.witness_shaped (enc := enc) (C := Tryz.checked) (os := os) (X := fun w _ => laidMetH Tryz.prog Rows.fnQuantityReadsRow.laid w) false (World.laidAll Tryz.prog os Rows.fnQuantityReadsRow.laid) #[.agg #[.int .i64 0, .string ⟨#[]⟩, .bool false, .string ⟨#[]⟩, .int .i64 0, .int .i64 0, .bool false, .int .i64 0, .string ⟨#[]⟩]] 8 (World.laidAll_os _ _ _)
      (World.shaped_of_ZipB (by kernel_rfl) (by kernel_rfl)) (by kernel_rfl) (by kernel_rfl) (by kernel_rfl)
      (by rw [MakeChecks.laidMetH_plain _ _ _ (by kernel_rfl)]; exact laidMet_laidAll _ (by kernel_rfl) (by kernel_rfl))) ?_
  intro W base args ds gs before hval0 hW _ _ hL _
  have hval : ∀ (j : Nat) t v, Tryz.f3.params[j]? = some t → args[j]? = some v → Value.okWide Tryz.prog W .any base t v := hval0
  have hW' := hW
  obtain ⟨p, q, hA0, hV, rfl, _, _⟩ := hW
  have hA : DataW.TrodAll enc Tryz.prog W 0 (fun _ => true) true Tryz.f3.params.toList args.toList ds p := hA0
  rw [Tryz.params3] at hA hval
  obtain ⟨v0, d0, rfl, rfl, h0⟩ := trodAll_one hA
  obtain ⟨rfl, rfl⟩ := trodVars_none hV
  obtain ⟨sign, num, dot, den, kind, place, up, ps, pow, rfl, hf, rfl, rfl⟩ := word_open (hval 0 23 v0 rfl rfl) h0
  have e1 : Rows.fnQuantityReadsSpec.fn H ([wdat sign num dot den kind place up ps pow] ++ []) = { results := [.lit (.bool true)], args := [wdat sign num dot den kind place up ps pow] } := rfl
  refine (walk sign num dot den kind place up ps pow W (laid_env hL)).mono fun e W' ⟨he, hb⟩ => ?_
  subst he
  refine ⟨_, rfl, _, _, _, [], [], [], hW', ?_, ?_, ?_, hb.frame _, fun h => by cases h⟩
  · rw [e1]; exact trodAll_mk1 (shut_bool Tryz.underlying4 true)
  · rw [e1]; exact trodAll_mk1 (word_shut hf dot up _ _ _ _)
  · rw [e1]; rfl
theorem reads_holds (walk : Walk1 3) : Rows.FnQuantityReadsSaid :=
  OpenClaim.holds_of_wide 3 Tryz.f3 rfl rfl rfl rfl rfl rfl rfl ⟨rfl, rfl, rfl, rfl, rfl⟩ rfl rfl rfl rfl rfl (by kernel_rfl) Tryz.func3 closed3
    (of_decide_eq_true (by kernel_rfl)) (by unfold Func.isWrapper; first | (rw [if_pos (by decide +kernel)]; kernel_rfl) | (rw [if_neg (by decide +kernel)]; exact ⟨rfl, rfl⟩))
    (fun os started H enc _ => reads_lifted walk os started H enc)
end Go.Proofs.YtcpjclakdpjjfaaGreatDoor
