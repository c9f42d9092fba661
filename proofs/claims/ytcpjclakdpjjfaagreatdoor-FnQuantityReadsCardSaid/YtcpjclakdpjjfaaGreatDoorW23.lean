/- Whole numbers read: scanSign, scan. Whole numbers read: the end of a text. What a world must hold: the thresholds, io.EOF, strconv's table. strconv.AppendInt. -/
import Derived.Test.YtcpjclakdpjjfaaGreatDoorW22
import Derived.Test.YtcpjclakdpjjfaaGreatDoorW08
import Derived.Test.YtcpjclakdpjjfaaGreatDoorW05
import Derived.LaidEql
import Derived.Test.YtcpjclakdpjjfaaGreatDoorW20
import Derived.Test.YtcpjclakdpjjfaaGreatDoorW16
namespace Go.Proofs.YtcpjclakdpjjfaaGreatDoor
open Go.RowKit Wd Dg
set_option maxHeartbeats 1600000 in
theorem scanSign_calls (b i : Nat) (p : Int) (s : ByteArray) (w : World) (h : Rd w b s i p) (hi : i < s.size) (hc : s.size ≤ 1000000) :
    Calls Tryz.prog 227 #[.iface 171 (.pointer (some ⟨b, 0, none⟩))] w fun e w' => e = .returned (.tuple #[.bool (decide ((s[i]'hi) = 45)), .nilIface]) ∧ Rd w' b s ((i + (if (s[i]'hi) = 45 ∨ (s[i]'hi) = 43 then 1 else 0) : Nat) : Int) (-1) ∧ Mod [b] w w' := by
  have m1 := meth_readByte b
  have m2 := meth_unreadByte b
  have RB := Lib.hid (readByte_ok b i p s w h hi hc)
  generalize hx : s[i]'hi = x at *
  clear h hx
  go_enter Tryz.func227, Tryz.ntmps227
  go_wp2_with fail
  refine RB.out.mono ?_
  rintro e w1 ⟨rfl, h1, hm1⟩
  have H1 := Lib.hid (And.intro h1 hm1)
  have UB := Lib.hid (unreadByte_calls b i (-1) s w1 h1 (by omega))
  clear h1 hm1
  by_cases h45 : x = 45
  · subst h45
    go_wp2_with fail
    go_ret2
    exact ⟨rfl, by simpa using H1.out.1, H1.out.2⟩
  · have t1 : ((x.toNat : Int) == 45) = false := by
      simp only [beq_eq_false_iff_ne, ne_eq]
      intro h
      exact h45 (UInt8.toNat_inj.1 (by have : x.toNat = 45 := by omega
                                       simpa using this))
    by_cases h43 : x = 43
    · subst h43
      go_wp2_with fail
      go_ret2
      exact ⟨rfl, by simpa using H1.out.1, H1.out.2⟩
    · have t2 : ((x.toNat : Int) == 43) = false := by
        simp only [beq_eq_false_iff_ne, ne_eq]
        intro h
        exact h43 (UInt8.toNat_inj.1 (by have : x.toNat = 43 := by omega
                                         simpa using this))
      go_wp2_with fail
      refine UB.out.mono ?_
      rintro e w2 ⟨rfl, h2, hm2⟩
      have H2 := Lib.hid (And.intro h2 hm2)
      clear h2 hm2
      go_wp2_with fail
      all_goals
        go_ret2
        exact ⟨by simp, by simpa [h45, h43] using H2.out.1, H1.out.2.trans H2.out.2⟩
end Go.Proofs.YtcpjclakdpjjfaaGreatDoor
namespace Go.Proofs.YtcpjclakdpjjfaaGreatDoor
open Go.RowKit Wd Dg
theorem info260 : (Tryz.prog.info? 260).map (·.comparable) = some true := by kernel_rfl
theorem info262 : (Tryz.prog.info? 262).isSome = true := by kernel_rfl
/-- io.EOF's value. -/
def eofV (be : Addr) : Value := .iface 260 (.pointer (some be))
theorem eof_nil (be : Addr) (w : World) : (binOp .eql 72 (eofV be) .nilIface).run Tryz.prog w = .ok (.bool false) w := by unfold eofV; kernel_rfl
theorem eof_eql (be : Addr) (w : World) : (binOp .eql 72 (eofV be) (eofV be)).run Tryz.prog w = .ok (.bool true) w := by
  obtain ⟨i, hi, hc⟩ := Option.map_eq_some_iff.1 info260
  obtain ⟨j, hj⟩ := Option.isSome_iff_exists.1 info262
  exact run_eql_iface_ptr_same w _ Tryz.underlying72 Tryz.underlying260 hi hc hj
theorem eof_neq (be : Addr) (w : World) : (binOp .neq 72 (eofV be) (eofV be)).run Tryz.prog w = .ok (.bool false) w := by
  obtain ⟨i, hi, hc⟩ := Option.map_eq_some_iff.1 info260
  obtain ⟨j, hj⟩ := Option.isSome_iff_exists.1 info262
  simp only [binOp, eofV]
  simp [Op.equal, Op.maxDepth, run_equalIn_iface_ptr_same w 9998 _ Tryz.underlying72 Tryz.underlying260 hi hc hj]
/-- One byte read, or the end met. -/
def RdSt (b : Nat) (s : ByteArray) (be : Addr) (i : Nat) (err : Value) (ch : Int) (wr : World) : Prop :=
  (∃ h : i < s.size, err = .nilIface ∧ ch = ((s[i]'h).toNat : Int) ∧ Rd wr b s ((i + 1 : Nat) : Int) (-1)) ∨ (s.size ≤ i ∧ err = eofV be ∧ Rd wr b s (i : Int) (-1))
theorem readByte_any (b i : Nat) (be : Addr) (p : Int) (s : ByteArray) (w : World) (h : Rd w b s i p) (he : w.cell? ⟨3, 0, none⟩ = some (eofV be)) (hb : 19 ≤ b) (hc : s.size ≤ 1000000) :
    Calls Tryz.prog 336 #[.pointer (some ⟨b, 0, none⟩)] w fun e w' => ∃ (ch : Int) (err : Value), e = .returned (.tuple #[.int .u8 ch, err]) ∧ RdSt b s be i err ch w' ∧ Mod [b] w w' := by
  rcases Nat.lt_or_ge i s.size with hi | hi
  · exact (readByte_ok b i p s w h hi hc).mono fun e w' ⟨h1, h2, h3⟩ => ⟨_, _, h1, .inl ⟨hi, rfl, rfl, h2⟩, h3⟩
  · exact (readByte_end b i p s _ w h hi he hb).mono fun e w' ⟨h1, h2, h3⟩ => ⟨_, _, h1, .inr ⟨hi, rfl, h2⟩, h3⟩
/-- The bytes from place i on. -/
def tl (s : ByteArray) (i : Nat) : List UInt8 := s.data.toList.drop i
/-- Where the reading of digits stands: those from place i0 to i are read, j of these are not in z yet. -/
structure SR (w : World) (b i0 i : Nat) (s : ByteArray) (be : Addr) (j wv X : Nat) (z err : Value) (ch : Int) (wr : World) : Prop where
  mod : Mod [b] w wr
  nv : Nv wr z X
  own : ∀ q, q ∈ sb z → w.heap.size ≤ q
  val : bv ((tl s i0).take (i - i0)) = X * 10 ^ j + wv
  wlt : wv < 10 ^ j
  jlt : j < 19
  ge : i0 ≤ i
  le : i ≤ s.size
  st : RdSt b s be i err ch wr
theorem tl_succ {s : ByteArray} {i0 i : Nat} (h0 : i0 ≤ i) (h : i < s.size) : (tl s i0).take (i + 1 - i0) = (tl s i0).take (i - i0) ++ [s[i]'h] := by
  unfold tl
  have hl : s.data.toList.length = s.size := rfl
  rw [show i + 1 - i0 = (i - i0) + 1 by omega, List.take_succ_eq_append_getElem (by rw [List.length_drop, hl]; omega)]
  congr 2
  rw [List.getElem_drop]
  show s.data.toList[i0 + (i - i0)] = s.data[i]
  simp [show i0 + (i - i0) = i by omega]
theorem tl_bd {s : ByteArray} {i0 i : Nat} (hB : BD (tl s i0)) (h0 : i0 ≤ i) (h : i < s.size) : 48 ≤ (s[i]'h).toNat ∧ (s[i]'h).toNat ≤ 57 := by
  refine hB _ (List.mem_of_mem_take (i := i + 1 - i0) ?_)
  rw [tl_succ h0 h]; simp
theorem SR.digit {w : World} {b i0 i : Nat} {s : ByteArray} {be : Addr} {j wv X : Nat} {z err : Value} {ch : Int} {wr : World} (h : SR w b i0 i s be j wv X z err ch wr) (hi : i < s.size) {d : Nat} (hd : d = (s[i]'hi).toNat - 48) :
    bv ((tl s i0).take (i + 1 - i0)) = X * 10 ^ (j + 1) + (wv * 10 + d) := by
  rw [tl_succ h.ge hi, bv_snoc, h.val, ← hd, Nat.pow_succ, Nat.mul_add, ← Nat.mul_assoc]
  have : 10 * X * 10 ^ j = X * (10 ^ j * 10) := by rw [Nat.mul_comm 10 X, Nat.mul_assoc, Nat.mul_comm 10]
  omega
end Go.Proofs.YtcpjclakdpjjfaaGreatDoor
namespace Go.Proofs.YtcpjclakdpjjfaaGreatDoor
open Go.RowKit Wd Dg
structure Env2 (w : World) : Prop where
  env : Env w
  tab : Lib.TabIs Tryz.prog w "internal/strconv.uint64pow10" .u64 Lib.pow10Tab
  eof : ∃ be, w.cell? ⟨3, 0, none⟩ = some (eofV be)
theorem glob_tab : ∃ g, Tryz.prog.globalNamed "internal/strconv.uint64pow10" = some g ∧ g < 19 := ⟨13, by kernel_rfl, by decide⟩
theorem Env2.mod {S : List Nat} {w w' : World} (h : Env2 w) (m : Mod S w w') (hs : ∀ k, k ∈ S → 19 ≤ k) : Env2 w' := by
  refine ⟨h.env.mod m hs, ?_, ?_⟩
  · obtain ⟨g, hg, hlt⟩ := glob_tab
    have ht := h.tab
    unfold Lib.TabIs World.var? at *
    rw [hg] at ht ⊢
    have hb := h.env.big
    have e := m.block g (by omega) (fun hm => by have := hs g hm; omega)
    simp only [Option.bind_some] at ht ⊢
    rw [e]; exact ht
  · obtain ⟨be, hbe⟩ := h.eof
    exact ⟨be, (m.cell (p := ⟨3, 0, none⟩) (World.block_lt_of_cell? w _ hbe) (fun hm => by have := hs _ hm; simp at this)).trans hbe⟩
theorem Env2.drewN {w : World} (h : Env2 w) (n : Nat) : Env2 (w.drewN n) := h.mod ((Mod.refl [] w).drewN n) (by simp)
theorem Env2.new {w w' : World} (h : Env2 w) (m : Mod [] w w') : Env2 w' := h.mod m (by simp)
theorem appendInt_calls (i : Int) (w : World) (he : Env2 w) (hi : i64 i) (o : Value) (ho : o = .slice none 0 0) :
    Calls Tryz.prog 131 #[o, .int .i64 i, .int .i64 10] w fun e w' => ∃ v', e = .returned v' ∧ Bs w' w.heap.size v' (Lib.itoa i) ∧ Mod [] w w' := by
  subst ho
  refine (Tryz.strconv_AppendInt_10 w.heap.size 0 i hi.1 hi.2 _ [] w (World.ownsRow_nil w _ 5 1) (Nat.le_refl _) (by omega) (Lib.tabBelow_of_tabIs he.tab)).mono ?_
  rintro e w' ⟨v', rfl, h1, h2, -⟩
  refine ⟨v', rfl, ?_, Mod.of_below h2 (Nat.le_refl _)⟩
  rw [Nat.zero_add, List.nil_append] at h1
  exact h1
end Go.Proofs.YtcpjclakdpjjfaaGreatDoor
