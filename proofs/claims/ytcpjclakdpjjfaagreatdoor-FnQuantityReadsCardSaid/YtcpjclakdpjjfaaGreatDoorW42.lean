/- Whole numbers read (bigall/intconv.go, int.go: scan, setFromScanner, SetString). Runes read (strings.Reader.ReadRune) of a text of bytes below 128. Decimals read (inf/dec.go: scan, SetString). Words as texts, and what the parser's pieces mean; plain. A word's text, number and canonical text (laws: quantityOf). -/
import Derived.Test.YtcpjclakdpjjfaaGreatDoorW34
import Derived.Test.YtcpjclakdpjjfaaGreatDoorW11
import Derived.Test.YtcpjclakdpjjfaaGreatDoorW23
import Derived.Test.YtcpjclakdpjjfaaGreatDoorW20
import Derived.Test.YtcpjclakdpjjfaaGreatDoorW16
import Derived.Test.YtcpjclakdpjjfaaGreatDoorW10
import Derived.Test.YtcpjclakdpjjfaaGreatDoorW41
import Derived.Deep.RegionHeld3
import Derived.Deep.RegionLaw
import Derived.Deep.CutRange
import Derived.Handy
namespace Go.Proofs.YtcpjclakdpjjfaaGreatDoor
open Go.RowKit Wd Dg
theorem int_fin2 {w2 : World} {b : Nat} {s : Option Int} {x : Bool} {v0 v' : Value} {N : Int} (hh : Hd w2 b (hty s) (hdr s x v0)) (nv : Nv w2 v' N.natAbs) (hb : b ∉ sb v') (lo : 19 ≤ b) (vlo : ∀ k, k ∈ sb v' → 19 ≤ k) :
    IA ((w2.setCell ⟨b, 1, none⟩ v').setCell ⟨b, 0, none⟩ (.bool (decide (N < 0)))) b s N v' := by
  have h1 := (hh.set 1 v').set 0 (.bool (decide (N < 0)))
  rw [hdr_set1, hdr_set0] at h1
  have m2 : Mod [b] w2 ((w2.setCell ⟨b, 1, none⟩ v').setCell ⟨b, 0, none⟩ (.bool (decide (N < 0)))) := ((Mod.refl [b] w2).setCell _ (.inl (by simp))).setCell _ (.inl (by simp))
  exact ⟨h1, nv.mod m2 (fun j hj hb' => hb (List.mem_singleton.1 hb' ▸ hj)), lo, vlo⟩
/-- A text of digits, with a sign or none ahead. -/
structure Numl (s : ByteArray) (i0 : Nat) (g : Bool) (N : Int) : Prop where
  pos : i0 < s.size
  cap : s.size ≤ 300
  bd : BD (tl s i0)
  hi0 : i0 = if (s[0]'(by omega)) = 45 ∨ (s[0]'(by omega)) = 43 then 1 else 0
  hg : g = decide ((s[0]'(by omega)) = 45)
  hn : N = if g then -(bv (tl s i0) : Int) else bv (tl s i0)
def IsRet (w : World) (bz b : Nat) (sz : Option Int) (N : Int) (s : ByteArray) (v0 : Value) (e : Ending) (w' : World) : Prop :=
  e = .returned v0 ∧ (∃ v', IA w' bz sz N v' ∧ (∀ k, k ∈ sb v' → w.heap.size ≤ k)) ∧ Mod [bz, b] w w' ∧ Rd w' b s (s.size : Int) (-1)
set_option maxRecDepth 10000 in
set_option maxHeartbeats 1600000 in
theorem int_scan (bz b : Nat) (be : Addr) (i0 : Nat) (sz : Option Int) (p : Int) (s : ByteArray) (g : Bool) (N : Int) (w : World) (hz : IA w bz sz 0 (.slice none 0 0)) (h : Rd w b s ((0 : Nat) : Int) p) (he : w.cell? ⟨3, 0, none⟩ = some (eofV be)) (hb : 19 ≤ b) (hN : Numl s i0 g N) :
    Calls Tryz.prog 200 #[.pointer (some ⟨bz, 0, none⟩), .iface 171 (.pointer (some ⟨b, 0, none⟩)), .int .i64 10] w (IsRet w bz b sz N s (.tuple #[.pointer (some ⟨bz, 0, none⟩), .int .i64 10, .nilIface])) := by
  have hne : bz ≠ b := fun h1 => by
    subst h1
    have h2 := hz.hd.symm.trans h
    cases sz <;> simp [hty, hdr] at h2
  have hpos := hN.pos
  have hcap := hN.cap
  have SS := scanSign_calls b 0 p s w h (by omega) (by omega)
  rw [← hN.hg, show (0 + (if (s[0]'(by omega)) = 45 ∨ (s[0]'(by omega)) = 43 then 1 else 0) : Nat) = i0 by rw [Nat.zero_add]; exact hN.hi0.symm] at SS
  have HS := Lib.hid SS
  have H0 := Lib.hid (And.intro hz (And.intro he (And.intro hb (And.intro hN hne))))
  clear hz he hb hN h SS hne hpos hcap
  go_enter Tryz.func200, Tryz.ntmps200
  go_wp2_with fail
  refine HS.out.mono ?_
  rintro e w1 ⟨rfl, h1, m1⟩
  obtain ⟨hz, he, hb, hN, hne⟩ := H0.out
  have hz1 := hz.mod m1 (by simp [hne]) (by simp [sb])
  have he1 : w1.cell? ⟨3, 0, none⟩ = some (eofV be) := (m1.cell (p := ⟨3, 0, none⟩) (World.block_lt_of_cell? w _ he) (by simp; omega)).trans he
  have SC := Lib.hid (scan_calls b i0 be (-1) s w1 h1 he1 hb hN.pos hN.cap hN.bd)
  have z1 := hz1.abs
  have HM1 := Lib.hid (And.intro m1 hz1)
  clear m1 hz1 he1 h1 hz he hb hN HS
  go_wp2_with fail
  refine SC.out.mono ?_
  rintro e w2 ⟨v, rfl, nv, m2, own, rd⟩
  obtain ⟨a, l, c, rfl, hl, hlc, hl63⟩ := nv.len
  have hz1 := HM1.out.2
  have hh := hz1.hd.mod m2 (by simp [hne])
  have hh1 := hh.set 1 (.slice a l c)
  have c1 := hh.cell (hdr_get1 _ _ _)
  have f1 := hh.free 1
  have c2 := hh1.cell (i := 1) (v := .slice a l c) (by rw [hdr_set1]; exact hdr_get1 _ _ _)
  have c0 := hh1.cell (i := 0) (v := .bool (decide ((0 : Int) < 0))) (by rw [hdr_set1]; exact hdr_get0 _ _ _)
  have f0 := hh1.free 0
  have M12 := HM1.out.1.trans m2
  have hlt := hz1.lt
  have hnb : bz ∉ sb (.slice a l c) := fun hm => by have := own _ hm; omega
  have hN := H0.out.2.2.2.1
  have hlo := hz1.lo
  have FIN : ∀ (x : Bool), x = decide (N < 0) → IsRet w bz b sz N s (.tuple #[.pointer (some ⟨bz, 0, none⟩), .int .i64 10, .nilIface]) (.returned (.tuple #[.pointer (some ⟨bz, 0, none⟩), .int .i64 10, .nilIface])) ((w2.setCell ⟨bz, 1, none⟩ (.slice a l c)).setCell ⟨bz, 0, none⟩ (.bool x)) := fun x hx => by
    subst hx
    have hNn : N.natAbs = bv (tl s i0) := by rw [hN.hn]; split <;> omega
    refine ⟨rfl, ⟨_, int_fin2 hh (by rw [hNn]; exact nv) hnb hlo (fun k hk => by have := own k hk; omega), fun k hk => Nat.le_trans HM1.out.1.size (own k hk)⟩, ?_, ?_⟩
    · exact ((M12.mono (fun x hx => .inl (by simp at hx; simp [hx]))).setCell _ (.inl (by simp))).setCell _ (.inl (by simp))
    · exact rd.mod (((Mod.refl [bz] w2).setCell _ (.inl (by simp))).setCell _ (.inl (by simp))) (by simp; exact fun h => hne h.symm)
  rcases Nat.eq_zero_or_pos l with rfl | hl0
  · have HF := Lib.hid (FIN false (by
      rw [hN.hn, hl.1 rfl]; simp))
    clear FIN hh hh1 hz1 m2 nv own rd M12 hN hl hnb
    go_wp2_with fail
    go_ret3
    exact HF.out
  · have t1 : decide ((0 : Int) < (l : Int)) = true := by simp; omega
    have t2 : decide (0 < l) = true := by simp; omega
    have HF := Lib.hid (FIN g (by
      have : bv (tl s i0) ≠ 0 := fun h => by have := hl.2 h; omega
      rw [hN.hn]; cases g <;> simp <;> omega))
    clear FIN hh hh1 hz1 m2 nv own rd M12 hN hl hnb
    go_wp2_with fail
    go_ret3
    exact HF.out
set_option maxHeartbeats 1600000 in
theorem int_setFromScanner (bz b : Nat) (be : Addr) (i0 : Nat) (sz : Option Int) (p : Int) (s : ByteArray) (g : Bool) (N : Int) (w : World) (hz : IA w bz sz 0 (.slice none 0 0)) (h : Rd w b s ((0 : Nat) : Int) p) (he : w.cell? ⟨3, 0, none⟩ = some (eofV be)) (hb : 19 ≤ b) (hN : Numl s i0 g N) :
    Calls Tryz.prog 171 #[.pointer (some ⟨bz, 0, none⟩), .iface 171 (.pointer (some ⟨b, 0, none⟩)), .int .i64 10] w (IsRet w bz b sz N s (.tuple #[.pointer (some ⟨bz, 0, none⟩), .bool true])) := by
  have m1 := meth_readByte b
  have m2 := eof_neq be
  have SC := Lib.hid (int_scan bz b be i0 sz p s g N w hz h he hb hN)
  have H0 := Lib.hid (And.intro hz (And.intro he (And.intro hb hN)))
  clear hz he hb hN h
  go_enter Tryz.func171, Tryz.ntmps171
  go_wp2_with fail
  refine SC.out.mono ?_
  rintro e w1 ⟨rfl, ⟨v', ia, own⟩, M1, rd⟩
  obtain ⟨hz, he, hb, hN⟩ := H0.out
  have hlo := hz.lo
  have he1 : w1.cell? ⟨3, 0, none⟩ = some (eofV be) := (M1.cell (p := ⟨3, 0, none⟩) (World.block_lt_of_cell? w _ he) (by simp; omega)).trans he
  have RB := Lib.hid (readByte_end b s.size (-1) s _ w1 rd (Nat.le_refl _) he1 hb)
  have hne : b ∉ sb v' := rd.not_sb ia.nv.zs (by decide)
  have hne2 : bz ≠ b := fun h1 => by
    subst h1
    have h2 := ia.hd.symm.trans rd
    cases sz <;> simp [hty, hdr] at h2
  have HH := Lib.hid (And.intro ia (And.intro own (And.intro M1 (And.intro hne hne2))))
  have he3 : ∀ w2, Mod [b] w1 w2 → w2.cell? ⟨3, 0, none⟩ = some (eofV be) := fun w2 m => (m.cell (p := ⟨3, 0, none⟩) (World.block_lt_of_cell? w1 _ he1) (by simp; omega)).trans he1
  have HE := Lib.hid he3
  clear hz he hb hN ia own M1 rd he1 SC hne hne2 he3
  go_wp2_with fail
  refine RB.out.mono ?_
  rintro e w2 ⟨rfl, h3, h4⟩
  have he2 := HE.out w2 h4
  have H2 := Lib.hid (And.intro h3 h4)
  clear h3 h4
  unfold eofV at he2 m2 ⊢
  go_wp2_with fail
  go_ret2
  obtain ⟨k1, k2, k3, k4, k5⟩ := HH.out
  exact ⟨rfl, ⟨v', k1.mod H2.out.2 (by simp [k5]) (fun k hk hb => k4 (List.mem_singleton.1 hb ▸ hk)), k2⟩, k3.trans (H2.out.2.mono (fun x hx => .inl (by simp at hx; simp [hx]))), H2.out.1⟩
set_option maxHeartbeats 1600000 in
theorem int_setString (bz : Nat) (be : Addr) (i0 : Nat) (sz : Option Int) (s : ByteArray) (g : Bool) (N : Int) (w : World) (hw : 19 ≤ w.heap.size) (hz : IA w bz sz 0 (.slice none 0 0)) (he : w.cell? ⟨3, 0, none⟩ = some (eofV be)) (hN : Numl s i0 g N) :
    Calls Tryz.prog 145 #[.pointer (some ⟨bz, 0, none⟩), .string s, .int .i64 10] w fun e w' => e = .returned (.tuple #[.pointer (some ⟨bz, 0, none⟩), .bool true]) ∧ ∃ v', IntRes w bz (.slice none 0 0) sz N v' w' := by
  have H0 := Lib.hid (And.intro hz (And.intro he (And.intro hw hN)))
  clear hz he hw hN
  go_enter Tryz.func145, Tryz.ntmps145
  go_wp2_with fail
  refine (newReader_calls s w).mono ?_
  rintro e w1 ⟨rfl, h1, m1⟩
  obtain ⟨hz, he, hw, hN⟩ := H0.out
  have SF := Lib.hid (int_setFromScanner bz w.heap.size be i0 sz (-1) s g N w1 (hz.mod m1 (by simp) (by simp)) h1 ((m1.cell (p := ⟨3, 0, none⟩) (World.block_lt_of_cell? w _ he) (by simp)).trans he) hw hN)
  have HM := Lib.hid (And.intro m1 hz)
  clear h1 m1 hz he hw hN
  go_wp2_with fail
  refine SF.out.mono ?_
  rintro e w2 ⟨rfl, ⟨v', ia, own⟩, M1, rd⟩
  have HF := Lib.hid (And.intro ia (And.intro own M1))
  clear ia own M1 rd
  go_wp2_with fail
  go_ret2
  obtain ⟨k1, k2, k3⟩ := HF.out
  refine ⟨rfl, v', k1, ?_, fun k hk => .inr (Nat.le_trans HM.out.1.size (k2 k hk))⟩
  exact (HM.out.1.mono (by simp)).step k3 (fun x hx => by
    simp at hx
    rcases hx with rfl | rfl
    · exact .inl (by simp)
    · exact .inr (Nat.le_refl _))
end Go.Proofs.YtcpjclakdpjjfaaGreatDoor
namespace Go.Proofs.YtcpjclakdpjjfaaGreatDoor
open Go.RowKit Wd Dg
set_option maxRecDepth 10000 in
theorem decodeAscii (t : ByteArray) (x : UInt8) (w : World) (h0 : 0 < t.size) (hx : t[0]'h0 = x) (h : x.toNat < 128) :
    Calls Tryz.prog 146 #[.string t] w fun e w' => e = .returned (.tuple #[.int .i32 (x.toNat : Int), .int .i64 1]) ∧ w = w' := by
  have t1 : t.toList.isEmpty = false := by
    rw [ByteArray.toList_eq]
    cases hl : t.data.toList with
    | nil => have : t.data.toList.length = 0 := by rw [hl]; rfl
             have h1 : t.size = t.data.toList.length := rfl
             omega
    | cons _ _ => rfl
  have t2 : decide ((x.toNat : Int) < 128) = true := by simp; omega
  go_enter Tryz.func146, Tryz.ntmps146
  go_wp2_with fail
  go_ret2
  exact ⟨rfl, rfl⟩
theorem extract_get {s : ByteArray} {i : Nat} (h : i < s.size) : ∃ h0 : 0 < (s.extract i s.size).size, (s.extract i s.size)[0]'h0 = s[i]'h := by
  have h0 : 0 < (s.extract i s.size).size := by rw [ByteArray.size_extract]; omega
  refine ⟨h0, ?_⟩
  rw [ByteArray.getElem_extract]
  simp
set_option maxRecDepth 20000 in
set_option maxHeartbeats 1600000 in
theorem readRune_ok (b i : Nat) (p : Int) (s : ByteArray) (w : World) (h : Rd w b s i p) (hi : i < s.size) (hc : s.size ≤ 1000000) (hx : (s[i]'hi).toNat < 128) :
    Calls Tryz.prog 107 #[.pointer (some ⟨b, 0, none⟩)] w fun e w' => e = .returned (.tuple #[.int .i32 ((s[i]'hi).toNat : Int), .int .i64 1, .nilIface]) ∧ Rd w' b s ((i + 1 : Nat) : Int) i ∧ Mod [b] w w' := by
  obtain ⟨h0, hg⟩ := extract_get hi
  have DA := Lib.hid (fun w => decodeAscii (s.extract i s.size) (s[i]'hi) w h0 hg hx)
  have c0 := h.cell (i := 0) (v := .string s) rfl
  have c1 := h.cell (i := 1) (v := .int .i64 i) rfl
  have c2 := h.cell (i := 2) (v := .int .i64 p) rfl
  have fr := h.free
  have t1 : decide ((s.size : Int) ≤ (i : Int)) = false := by simp; omega
  have hx2 : ∀ k, Rd ((w.drewN k).setCell ⟨b, 2, none⟩ (.int .i64 i)) b s i i ∧ Mod [b] w ((w.drewN k).setCell ⟨b, 2, none⟩ (.int .i64 i)) := fun k =>
    ⟨Hd.set (h.mod ((Mod.refl [] w).drewN k) (by simp)) 2 _, ((Mod.refl [b] w).drewN k).setCell _ (.inl (by simp))⟩
  have HX := Lib.hid hx2
  generalize hxx : (s[i]'hi).toNat = x at *
  have hle : i ≤ s.size := by omega
  clear h h0 hg hx2
  go_enter Tryz.func107, Tryz.ntmps107
  go_wp2_with fail
  go_quiet (fail)
  go_wp2_with fail
  obtain ⟨h1, m1⟩ := HX.out nq
  clear c0 c1 c2 fr HX
  generalize (w.drewN nq).setCell ⟨b, 2, none⟩ (.int .i64 i) = w1 at *
  have c0 := h1.cell (i := 0) (v := .string s) rfl
  have c1 := h1.cell (i := 1) (v := .int .i64 i) rfl
  have fr := h1.free 1
  have H1 := Lib.hid (And.intro h1 m1)
  clear h1 m1
  go_region_law (first | (go_simp; go_at_call 146; refine (DA.out _).mono ?_; rintro e w2 ⟨rfl, rfl⟩))
  all_goals
    go_wp2_with fail
    go_ret3
    obtain ⟨h1, m1⟩ := H1.out
    exact ⟨rfl, Hd.set (h1.mod ((Mod.refl [] w1).drewN 1) (by simp)) 1 _, (m1.drewN 1).setCell _ (.inl (by simp))⟩
set_option maxHeartbeats 1600000 in
theorem readRune_end (b i : Nat) (p : Int) (s : ByteArray) (ev : Value) (w : World) (h : Rd w b s i p) (hi : s.size ≤ i) (he : w.cell? ⟨3, 0, none⟩ = some ev) (hb : 19 ≤ b) :
    Calls Tryz.prog 107 #[.pointer (some ⟨b, 0, none⟩)] w fun e w' => e = .returned (.tuple #[.int .i32 0, .int .i64 0, ev]) ∧ Rd w' b s i (-1) ∧ Mod [b] w w' := by
  have c0 := h.cell (i := 0) (v := .string s) rfl
  have c1 := h.cell (i := 1) (v := .int .i64 i) rfl
  have c2 := h.cell (i := 2) (v := .int .i64 p) rfl
  have fr := h.free
  have t1 : decide ((s.size : Int) ≤ (i : Int)) = true := by simp; omega
  have hx2 : ∀ k, Rd ((w.drewN k).setCell ⟨b, 2, none⟩ (.int .i64 (-1))) b s i (-1) ∧ Mod [b] w ((w.drewN k).setCell ⟨b, 2, none⟩ (.int .i64 (-1))) ∧ ((w.drewN k).setCell ⟨b, 2, none⟩ (.int .i64 (-1))).cell? ⟨3, 0, none⟩ = some ev := fun k =>
    have m : Mod [b] w ((w.drewN k).setCell ⟨b, 2, none⟩ (.int .i64 (-1))) := ((Mod.refl [b] w).drewN k).setCell _ (.inl (by simp))
    ⟨Hd.set (h.mod ((Mod.refl [] w).drewN k) (by simp)) 2 _, m, (m.cell (p := ⟨3, 0, none⟩) (World.block_lt_of_cell? w _ he) (by simp; omega)).trans he⟩
  have HX := Lib.hid hx2
  clear h hx2 he
  go_enter Tryz.func107, Tryz.ntmps107
  go_wp2_with fail
  go_quiet (fail)
  go_wp2_with fail
  obtain ⟨h1, m1, e1⟩ := HX.out nq
  clear c0 c1 c2 fr HX
  generalize (w.drewN nq).setCell ⟨b, 2, none⟩ (.int .i64 (-1)) = w1 at *
  have H1 := Lib.hid (And.intro h1 m1)
  clear h1 m1
  go_quiet (fail)
  go_wp2_with fail
  go_ret3
  obtain ⟨h1, m1⟩ := H1.out
  exact ⟨rfl, h1.mod ((Mod.refl [] w1).drewN _) (by simp), m1.drewN _⟩
end Go.Proofs.YtcpjclakdpjjfaaGreatDoor
namespace Go.Proofs.YtcpjclakdpjjfaaGreatDoor
open Go.RowKit Wd Dg
/-- A decimal as it is written: a sign or none, digits, a point (or none), digits. -/
structure DTx (s : ByteArray) (sg A D : List UInt8) (dot : Bool) : Prop where
  tx : s.data.toList = sg ++ A ++ (if dot then 46 :: D else [])
  sg : sg = [] ∨ sg = [43] ∨ sg = [45]
  a : BD A
  d : BD D
  nd : dot = false → D = []
  some : A ++ D ≠ []
  cap : s.size ≤ 250
/-- The bytes but for the point. -/
def nop (l : List UInt8) : List UInt8 := l.filter (· != 46)
theorem nop_app (l r : List UInt8) : nop (l ++ r) = nop l ++ nop r := List.filter_append ..
theorem nop_bd {l : List UInt8} (h : BD l) : nop l = l := List.filter_eq_self.2 fun c hc => by
  have := h c hc
  simp only [bne_iff_ne, ne_eq]
  rintro rfl
  have e : (46 : UInt8).toNat = 46 := rfl
  omega
theorem nop_sg {l : List UInt8} (h : l = [] ∨ l = [43] ∨ l = [45]) : nop l = l := by rcases h with rfl | rfl | rfl <;> rfl
theorem DTx.at {s : ByteArray} {sg A D : List UInt8} {dot : Bool} (h : DTx s sg A D dot) {i : Nat} (hi : i < s.size) :
    (i = 0 ∧ ((s[i]'hi) = 43 ∨ (s[i]'hi) = 45)) ∨ (48 ≤ (s[i]'hi).toNat ∧ (s[i]'hi).toNat ≤ 57) ∨ ((s[i]'hi) = 46 ∧ 46 ∉ s.data.toList.take i) := by
  have hl : i < s.data.toList.length := hi
  have e : s[i]'hi = s.data.toList[i]'hl := rfl
  rw [e]
  have htx := h.tx
  generalize s.data.toList = l at *
  subst htx
  rcases Nat.lt_or_ge i sg.length with h1 | h1
  · left
    rw [List.getElem_append_left (by rw [List.length_append]; omega), List.getElem_append_left h1]
    rcases h.sg with h2 | h2 | h2
    · simp [h2] at h1
    · subst h2
      have : i = 0 := by simpa using h1
      subst this; exact ⟨rfl, .inl rfl⟩
    · subst h2
      have : i = 0 := by simpa using h1
      subst this; exact ⟨rfl, .inr rfl⟩
  · right
    rcases Nat.lt_or_ge i (sg ++ A).length with h3 | h3
    · left
      rw [List.getElem_append_left h3, List.getElem_append_right h1]
      exact h.a _ (List.getElem_mem _)
    · rw [List.getElem_append_right h3]
      cases dot with
      | false => simp at hl; rw [List.length_append] at h3; omega
      | true =>
        simp only [if_true]
        rcases Nat.eq_or_lt_of_le h3 with h4 | h4
        · right
          refine ⟨by simp [← h4], ?_⟩
          rw [← h4, List.take_left]
          intro hm
          rcases List.mem_append.1 hm with h5 | h5
          · rcases h.sg with h2 | h2 | h2 <;> simp [h2] at h5
          · have := h.a _ h5
            have e : (46 : UInt8).toNat = 46 := rfl
            omega
        · left
          rw [List.getElem_cons, dif_neg (by omega)]
          exact h.d _ (List.getElem_mem _)
theorem take_one {l : List UInt8} {i : Nat} (h : i < l.length) : l.take (i + 1) = l.take i ++ [l[i]] := by
  rw [List.take_succ_eq_append_getElem h]
/-- Before the point. -/
theorem split_dot {P Q P' Q' : List UInt8} (h : P ++ 46 :: Q = P' ++ 46 :: Q') (h1 : 46 ∉ P) (h2 : 46 ∉ P') : P = P' := by
  have k : ∀ (X Y : List UInt8), 46 ∉ X → (X ++ 46 :: Y).takeWhile (· != 46) = X := by
    intro X Y hX
    induction X with
    | nil => simp
    | cons c X ih =>
      have hc : c ≠ 46 := fun e => hX (by simp [e])
      simp [hc, ih (fun hm => hX (List.mem_cons_of_mem _ hm))]
  rw [← k P Q h1, h, k P' Q' h2]
theorem DTx.no_dot {s : ByteArray} {sg A D : List UInt8} {dot : Bool} (h : DTx s sg A D dot) : 46 ∉ sg ++ A := by
  intro hm
  rcases List.mem_append.1 hm with h5 | h5
  · rcases h.sg with h2 | h2 | h2 <;> simp [h2] at h5
  · have := h.a _ h5
    have e : (46 : UInt8).toNat = 46 := rfl
    omega
theorem DTx.nopAll {s : ByteArray} {sg A D : List UInt8} {dot : Bool} (h : DTx s sg A D dot) : nop s.data.toList = sg ++ A ++ D := by
  rw [h.tx, nop_app, nop_app, nop_sg h.sg, nop_bd h.a]
  cases dot with
  | false => rw [h.nd rfl]; rfl
  | true =>
    show _ ++ Go.Proofs.YtcpjclakdpjjfaaGreatDoor.nop (46 :: D) = _
    have e : Go.Proofs.YtcpjclakdpjjfaaGreatDoor.nop (46 :: D) = Go.Proofs.YtcpjclakdpjjfaaGreatDoor.nop D := rfl
    rw [e, nop_bd h.d]
/-- Where the reading of a decimal stands. -/
structure DSc (w : World) (b base : Nat) (s : ByteArray) (i : Nat) (v : Value) (us : List UInt8) (dp dg : Int) (wr : World) : Prop where
  mod : Mod [b] w wr
  rd : ∃ p, Rd wr b s (i : Int) p
  row : Bs wr base v us
  us : us = nop (s.data.toList.take i)
  dp : (dp = -1 ∧ 46 ∉ s.data.toList.take i) ∨ ∃ P Q, s.data.toList.take i = P ++ 46 :: Q ∧ 46 ∉ P ∧ dp = (P.length : Int)
  dg : (dg = -1 ∧ ∀ c ∈ s.data.toList.take i, c = 43 ∨ c = 45 ∨ c = 46) ∨ (0 ≤ dg ∧ ∃ c ∈ s.data.toList.take i, 48 ≤ c.toNat)
  le : i ≤ s.size
  hb : w.heap.size ≤ base
  hb2 : base ≤ wr.heap.size
theorem take_mem_succ {s : ByteArray} {i : Nat} (hi : i < s.size) : s.data.toList.take (i + 1) = s.data.toList.take i ++ [s[i]'hi] := take_one (l := s.data.toList) hi
theorem DSc.push {w : World} {b base i : Nat} {s : ByteArray} {v v' : Value} {us : List UInt8} {dp dg dg' : Int} {wr w2 w3 : World} (h : DSc w b base s i v us dp dg wr) (hi : i < s.size) (hne : (s[i]'hi) ≠ 46)
    (m : Mod [b] wr w2) (hrd : Rd w2 b s ((i + 1 : Nat) : Int) i) (hrow : w3.ownsRow base 5 1 v' (us.length + 1) (Lib.byteCells us ++ [.int .u8 ((s[i]'hi).toNat : Int)])) (hg : (w2.alloc (.cells #[.int .u8 ((s[i]'hi).toNat : Int)] 5)).grownBy w3 v.ownBlock) (hbb : b < base)
    (hdg : (dg' = -1 ∧ dg = -1 ∧ ((s[i]'hi) = 43 ∨ (s[i]'hi) = 45)) ∨ (0 ≤ dg' ∧ dg' = dg) ∨ (0 ≤ dg' ∧ 48 ≤ (s[i]'hi).toNat)) : DSc w b base s (i + 1) v' (us ++ [s[i]'hi]) dp dg' w3 := by
  obtain ⟨_, _, _, hown⟩ := h.row.form
  have mg : Mod v.ownBlock.toList (w2.alloc (.cells #[.int .u8 ((s[i]'hi).toNat : Int)] 5)) w3 := Mod.grown hg (fun k hk => by rw [hk]; simp)
  have hS : ∀ k, k ∈ v.ownBlock.toList → base ≤ k := fun k hk => (hown k (by simpa using hk)).1
  have ht := take_mem_succ hi
  have hhb := h.hb
  refine { mod := ((h.mod.trans m).alloc _).step mg (fun x hx => .inr (by have := hS x hx; omega)), rd := ⟨i, ?_⟩, row := ?_, us := ?_, dp := ?_, dg := ?_, le := hi, hb := h.hb, hb2 := ?_ }
  · exact Hd.mod (Hd.mod hrd ((Mod.refl [] w2).alloc _) (by simp)) mg (fun hm => by have := hS b hm; omega)
  · have : Bs w3 base v' (us ++ [s[i]'hi]) := by
      unfold Bs
      rw [List.length_append, Lib.byteCells_append]
      exact hrow
    exact this
  · rw [ht, nop_app, ← h.us]
    have : nop [s[i]'hi] = [s[i]'hi] := by simp [nop, hne]
    rw [this]
  · rw [ht]
    rcases h.dp with ⟨h1, h2⟩ | ⟨P, Q, h1, h2, h3⟩
    · exact .inl ⟨h1, by simp [h2, hne.symm]⟩
    · exact .inr ⟨P, Q ++ [s[i]'hi], by rw [h1]; simp, h2, h3⟩
  · rw [ht]
    rcases hdg with ⟨h1, h2, h3⟩ | ⟨h1, h2⟩ | ⟨h1, h2⟩
    · rcases h.dg with ⟨h4, h5⟩ | ⟨h4, h5⟩
      · exact .inl ⟨h1, fun c hc => by
          rcases List.mem_append.1 hc with h6 | h6
          · exact h5 c h6
          · simp at h6; subst h6; rcases h3 with h3 | h3 <;> simp [h3]⟩
      · omega
    · rcases h.dg with ⟨h4, h5⟩ | ⟨h4, c, h5, h6⟩
      · omega
      · exact .inr ⟨h1, c, List.mem_append_left _ h5, h6⟩
    · exact .inr ⟨h1, _, by simp, h2⟩
  · have h1 := m.size
    have h2 := mg.size
    have h3 := h.hb2
    simp at h2; omega
theorem DSc.dot {w : World} {b base i : Nat} {s : ByteArray} {v : Value} {us : List UInt8} {dg : Int} {wr w2 : World} (h : DSc w b base s i v us (-1) dg wr) (hi : i < s.size) (he : (s[i]'hi) = 46)
    (m : Mod [b] wr w2) (hrd : Rd w2 b s ((i + 1 : Nat) : Int) i) (hbb : b < base) (hnd : 46 ∉ s.data.toList.take i) : DSc w b base s (i + 1) v us (us.length : Int) dg w2 := by
  have ht := take_mem_succ hi
  have hU := h.us
  have hu : nop (s.data.toList.take i) = s.data.toList.take i := List.filter_eq_self.2 fun c hc => by
    simp only [bne_iff_ne, ne_eq]
    rintro rfl; exact hnd hc
  refine { mod := h.mod.trans m, rd := ⟨i, hrd⟩, row := h.row.mod m (fun k hk => by rw [List.mem_singleton.1 hk]; exact hbb), us := ?_, dp := ?_, dg := ?_, le := hi, hb := h.hb, hb2 := Nat.le_trans h.hb2 m.size }
  · rw [ht, nop_app, ← hU, he]
    show us = us ++ []
    simp
  · refine .inr ⟨s.data.toList.take i, [], by rw [ht, he], hnd, ?_⟩
    rw [hU, hu]
  · rw [ht, he]
    rcases h.dg with ⟨h4, h5⟩ | ⟨h4, c, h5, h6⟩
    · exact .inl ⟨h4, fun c hc => by
        rcases List.mem_append.1 hc with h6 | h6
        · exact h5 c h6
        · simp at h6; simp [h6]⟩
    · exact .inr ⟨h4, c, List.mem_append_left _ h5, h6⟩
/-- At the end: the digits with their sign, and how many stand behind the point. -/
theorem DSc.fin {w : World} {b base i : Nat} {s : ByteArray} {v : Value} {us : List UInt8} {dp dg : Int} {wr : World} {sg A D : List UInt8} {dot : Bool} (h : DSc w b base s i v us dp dg wr) (ht : DTx s sg A D dot) (hi : s.size ≤ i) :
    us = sg ++ A ++ D ∧ dg ≠ -1 ∧ ((dp = -1 ∧ D = []) ∨ (0 ≤ dp ∧ (us.length : Int) - dp = D.length)) := by
  have hle := h.le
  have hall : s.data.toList.take i = s.data.toList := List.take_of_length_le hi
  have hU := h.us
  rw [hall, ht.nopAll] at hU
  refine ⟨hU, ?_, ?_⟩
  · intro hdg
    rcases h.dg with ⟨h1, h2⟩ | ⟨h1, -⟩
    · rw [hall] at h2
      have hne := ht.some
      obtain ⟨c, hc⟩ : ∃ c, c ∈ A ++ D := List.exists_mem_of_ne_nil _ hne
      have hc1 : c ∈ s.data.toList := by
        have hc2 : c ∈ nop s.data.toList := by rw [ht.nopAll, List.append_assoc]; exact List.mem_append_right _ hc
        exact (List.mem_filter.1 hc2).1
      have hd : 48 ≤ c.toNat := by
        rcases List.mem_append.1 hc with h3 | h3
        · exact (ht.a c h3).1
        · exact (ht.d c h3).1
      rcases h2 c hc1 with rfl | rfl | rfl
      · exact absurd hd (by decide)
      · exact absurd hd (by decide)
      · exact absurd hd (by decide)
    · omega
  · rcases h.dp with ⟨h1, h2⟩ | ⟨P, Q, h1, h2, h3⟩
    · left
      refine ⟨h1, ?_⟩
      cases dot with
      | false => exact ht.nd rfl
      | true =>
        rw [hall, ht.tx] at h2
        simp at h2
    · right
      rw [hall, ht.tx] at h1
      cases dot with
      | false =>
        exfalso
        have hm : (46 : UInt8) ∈ sg ++ A ++ (if false = true then 46 :: D else []) := by rw [h1]; simp
        simp only [Bool.false_eq_true, if_false, List.append_nil] at hm
        exact ht.no_dot hm
      | true =>
        have e := split_dot h1.symm h2 ht.no_dot
        rw [h3, hU, e]
        refine ⟨by omega, ?_⟩
        simp only [List.length_append]
        omega
end Go.Proofs.YtcpjclakdpjjfaaGreatDoor
namespace Go.Proofs.YtcpjclakdpjjfaaGreatDoor
open Go.RowKit Wd Dg
/-- A text of a number. -/
structure WordT (s : ByteArray) (fn : Nat) (V : Int) : Prop where
  w : ∃ (g A D S : List UInt8) (dot : Bool) (x : Int), s.data.toList = g ++ (A ++ ((if dot then 46 :: D else []) ++ S)) ∧ (g = [] ∨ g = [43] ∨ g = [45]) ∧ BD A ∧ BD D ∧ (dot = false → D = []) ∧ A ++ D ≠ [] ∧ Sfx S fn x ∧ A.length + D.length ≤ 110 ∧ V = qV (decide (g = [45])) A D fn x
  ok : CanOk fn V
theorem sgB_three (n : Nat) : sgB n = [] ∨ sgB n = [43] ∨ sgB n = [45] := by
  unfold sgB
  split
  · exact .inr (.inl rfl)
  · split
    · exact .inr (.inr rfl)
    · exact .inl rfl
theorem sgB_minus (n : Nat) : decide (sgB n = [45]) = (n == 2) := by
  unfold sgB
  by_cases h1 : n = 1
  · subst h1; rfl
  · by_cases h2 : n = 2
    · subst h2; rfl
    · rw [if_neg h1, if_neg h2]; simp [h2]
theorem qsfx_sfx {sign : Int} {num den pow : ByteArray} {dot : Bool} {kind place ps : Int} (up : Bool) (hr : QRt sign num dot den kind place ps pow) (hp : kind = 0 → pow.size ≤ 2 ∧ bv pow.data.toList ≤ 60) : Sfx (qsfx kind place up ps pow) kind.toNat (qx kind place ps pow) := by
  rcases hr.k with ⟨rfl, k1, k2⟩ | ⟨rfl, k1, k2⟩ | ⟨rfl, k1, k2, k3, k4, k5⟩
  · have hpl : place = -1 ∨ place = 0 ∨ place = 1 ∨ place = 2 ∨ place = 3 ∨ place = 4 ∨ place = 5 ∨ place = 6 := by omega
    refine .inl ⟨rfl, ?_⟩
    rcases hpl with rfl | rfl | rfl | rfl | rfl | rfl | rfl | rfl
    · exact .inr (.inl ⟨rfl, rfl⟩)
    · exact .inl ⟨rfl, rfl⟩
    · exact .inr (.inr (.inl ⟨rfl, rfl⟩))
    · exact .inr (.inr (.inr (.inl ⟨rfl, rfl⟩)))
    · exact .inr (.inr (.inr (.inr (.inl ⟨rfl, rfl⟩))))
    · exact .inr (.inr (.inr (.inr (.inr (.inl ⟨rfl, rfl⟩)))))
    · exact .inr (.inr (.inr (.inr (.inr (.inr (.inl ⟨rfl, rfl⟩))))))
    · exact .inr (.inr (.inr (.inr (.inr (.inr (.inr ⟨rfl, rfl⟩))))))
  · refine .inr (.inl ⟨rfl, place.toNat, by omega, by omega, rfl, ?_⟩)
    show (10 : Int) * place = _
    omega
  · obtain ⟨h1, h2⟩ := hp rfl
    refine .inr (.inr ⟨rfl, (if up then 69 else 101), sgB ps.toNat, pow.data.toList, rfl, by cases up <;> simp, sgB_three _, k1, ?_, ?_, ?_, ?_, ?_⟩)
    · intro h
      have : pow.size = pow.data.toList.length := rfl
      rw [h, List.length_nil] at this
      omega
    · show pow.size ≤ 3
      omega
    · have e : (sgB ps.toNat = [45]) ↔ ps = 2 := by
        have := sgB_minus ps.toNat
        rw [← decide_eq_true_iff (p := sgB ps.toNat = [45]), this]
        simp
        omega
      unfold qx
      by_cases h : ps = 2
      · rw [if_neg (by decide), if_neg (by decide), if_pos h, if_pos (e.2 h)]
      · rw [if_neg (by decide), if_neg (by decide), if_neg h, if_neg (mt e.1 h)]
    · unfold qx; simp; split <;> omega
    · unfold qx; simp; split <;> omega
theorem qtxt_word {sign : Int} {num den pow : ByteArray} {dot : Bool} {kind place ps : Int} (up : Bool) (hr : QRt sign num dot den kind place ps pow) (hl : num.size + den.size ≤ 100) (hp : kind = 0 → pow.size ≤ 2 ∧ bv pow.data.toList ≤ 60) (hc : CanOk kind.toNat (qwV sign num den kind place ps pow)) :
    WordT ⟨(qtxt sign num dot den kind place up ps pow).toArray⟩ kind.toNat (qwV sign num den kind place ps pow) := by
  refine ⟨⟨sgB sign.toNat, num.data.toList, den.data.toList, qsfx kind place up ps pow, dot, qx kind place ps pow, ?_, sgB_three _, hr.n, hr.d, hr.dot, hr.some, qsfx_sfx up hr hp, ?_, ?_⟩, hc⟩
  · show qtxt sign num dot den kind place up ps pow = _
    unfold qtxt
    rw [List.append_assoc]
  · show num.size + den.size ≤ 110
    omega
  · unfold qwV
    rw [sgB_minus]
    have h0 := hr.s0
    congr 1
    by_cases h : sign = 2
    · subst h; rfl
    · have h1 : sign.toNat ≠ 2 := by omega
      rw [beq_eq_false_iff_ne.2 h, beq_eq_false_iff_ne.2 h1]
/-- A suffix in its parts. -/
theorem sfx_parts {S : List UInt8} {fn : Nat} {x : Int} (h : Sfx S fn x) : ∃ L G P, S = L ++ (G ++ P) ∧ (∀ c, c ∈ L → c ∈ letters) ∧ (G = [] ∨ G = [43] ∨ G = [45]) ∧ BD P ∧ (L = [] → G = [] ∧ P = []) ∧ S.length ≤ 6 := by
  have bd0 : BD [] := by intro c hc; simp at hc
  rcases h with ⟨-, h⟩ | ⟨-, k, h1, h2, rfl, -⟩ | ⟨-, c, g, P, rfl, hc, hg, hP, hP0, hPl, -, -, -⟩
  · refine ⟨S, [], [], by simp, ?_, .inl rfl, bd0, fun _ => ⟨rfl, rfl⟩, ?_⟩
    · rcases h with ⟨rfl, -⟩ | ⟨rfl, -⟩ | ⟨rfl, -⟩ | ⟨rfl, -⟩ | ⟨rfl, -⟩ | ⟨rfl, -⟩ | ⟨rfl, -⟩ | ⟨rfl, -⟩ <;> decide
    · rcases h with ⟨rfl, -⟩ | ⟨rfl, -⟩ | ⟨rfl, -⟩ | ⟨rfl, -⟩ | ⟨rfl, -⟩ | ⟨rfl, -⟩ | ⟨rfl, -⟩ | ⟨rfl, -⟩ <;> decide
  · have hk : k = 1 ∨ k = 2 ∨ k = 3 ∨ k = 4 ∨ k = 5 ∨ k = 6 := by omega
    refine ⟨sfxB k, [], [], by simp, ?_, .inl rfl, bd0, fun _ => ⟨rfl, rfl⟩, ?_⟩
    · rcases hk with rfl | rfl | rfl | rfl | rfl | rfl <;> decide
    · rcases hk with rfl | rfl | rfl | rfl | rfl | rfl <;> decide
  · refine ⟨[c], g, P, rfl, ?_, hg, hP, fun h => by simp at h, ?_⟩
    · intro d hd
      rw [List.mem_singleton.1 hd]
      rcases hc with rfl | rfl <;> decide
    · have : g.length ≤ 1 := by rcases hg with rfl | rfl | rfl <;> decide
      simp
      omega
/-- The pieces, as the parser finds them. -/
def PsRaw (s : ByteArray) (p1 p2 p3 : Nat) (dot : Bool) (value num denom sfx : ByteArray) : Prop :=
  (p1 = s.size ∧ value = ⟨#[48]⟩ ∧ num = ⟨#[48]⟩ ∧ denom = ⟨#[]⟩ ∧ sfx = ⟨#[]⟩) ∨
  (p1 < s.size ∧ value = s.extract 0 p3 ∧ ((p1 = p2 ∧ num = ⟨#[48]⟩) ∨ (p1 < p2 ∧ num = s.extract p1 p2)) ∧ ((dot = false ∧ denom = ⟨#[]⟩) ∨ (dot = true ∧ denom = s.extract (p2 + 1) p3)) ∧ ((p3 = s.size ∧ sfx = ⟨#[]⟩) ∨ (p3 < s.size ∧ sfx = s.extract p3 s.size)))
/-- What the pieces mean. -/
structure PsR (value num denom sfx : ByteArray) (neg : Bool) (A D S : List UInt8) : Prop where
  den : denom.data.toList = D
  sfx : sfx.data.toList = S
  nm : BD num.data.toList
  ne : num.data.toList ≠ []
  eq : bv (num.data.toList ++ D) = bv (A ++ D)
  len : num.size ≤ A.length + 1
  val : ∃ g A' dot', DTx value g A' D dot' ∧ (if g = [45] then -(bv (A' ++ D) : Int) else bv (A' ++ D)) = sg neg * (bv (A ++ D) : Int)
theorem bd48 : BD [48] := by intro c hc; rw [List.mem_singleton.1 hc]; decide
theorem bv48 (D : List UInt8) : bv (48 :: D) = bv D := bv_zeros 1 D
theorem PsRaw.mean {s : ByteArray} {g A D L G P : List UInt8} {dot : Bool} (h : Wrd s g A D L G P dot) {z : Nat} {A' : List UInt8} (hA : A = List.replicate z 48 ++ A') {p1 p2 p3 : Nat} (e1 : p1 = g.length + z) (e2 : p2 = g.length + A.length)
    (e3 : p3 = p2 + (if dot then 1 + D.length else 0)) {value num denom sfx : ByteArray} (hl : g.length + A.length + D.length ≤ 200) (k : PsRaw s p1 p2 p3 dot value num denom sfx) : PsR value num denom sfx (decide (g = [45])) A D (L ++ (G ++ P)) := by
  have hlA : A.length = z + A'.length := by rw [hA]; simp
  have hdl : ((if dot then 46 :: D else []) : List UInt8).length = (if dot then 1 + D.length else 0) := by cases dot <;> simp; omega
  have hsz : s.size = g.length + (A.length + ((if dot then 1 + D.length else 0) + (L.length + (G.length + P.length)))) := by
    have : s.size = s.data.toList.length := rfl
    rw [this, h.tx]
    simp only [List.length_append, hdl]
  have hsg : ∀ n : Nat, (if g = [45] then -(n : Int) else n) = sg (decide (g = [45])) * (n : Int) := by
    intro n
    by_cases hg : g = [45] <;> simp [hg, sg]
  rcases k with ⟨h1, rfl, rfl, rfl, rfl⟩ | ⟨h1, rfl, hn, hd, hs⟩
  · have hA' : A' = [] := List.eq_nil_of_length_eq_zero (by omega)
    have hL : L ++ (G ++ P) = [] := List.eq_nil_of_length_eq_zero (by simp only [List.length_append]; omega)
    have hdot : dot = false := by cases hd : dot with
      | false => rfl
      | true => rw [hd] at hsz; simp at hsz; omega
    have hD := h.nd hdot
    have hb : bv (A ++ D) = 0 := by rw [hA, hA', hD, List.append_nil, List.append_nil, ← List.append_nil (List.replicate z (48 : UInt8)), bv_zeros]; rfl
    refine ⟨by rw [hD], by rw [hL], bd48, by decide, ?_, by show 1 ≤ _; omega, [], [48], false, ⟨rfl, .inl rfl, bd48, h.d, fun _ => hD, by simp, by show 1 ≤ 250; decide⟩, ?_⟩
    · rw [hb, hD]; rfl
    · rw [hb, hD]; simp; rfl
  · have hD : denom.data.toList = D := by
      rcases hd with ⟨hd, rfl⟩ | ⟨hd, rfl⟩
      · rw [h.nd hd]
      · have t : s.data.toList = (g ++ A ++ [46]) ++ (D ++ (L ++ (G ++ P))) := by rw [h.tx, hd]; simp
        rw [hd, if_pos rfl] at e3
        refine ext_mid t ?_ ?_ <;> simp only [List.length_append, List.length_cons, List.length_nil] <;> omega
    have hS : sfx.data.toList = L ++ (G ++ P) := by
      rcases hs with ⟨hs, rfl⟩ | ⟨hs, rfl⟩
      · have : L ++ (G ++ P) = [] := List.eq_nil_of_length_eq_zero (by simp only [List.length_append]; omega)
        rw [this]
      · have t : s.data.toList = (g ++ A ++ (if dot then 46 :: D else [])) ++ ((L ++ (G ++ P)) ++ []) := by rw [h.tx]; simp
        refine ext_mid t ?_ ?_ <;> simp only [List.length_append, hdl] <;> omega
    have hN : num.data.toList = if A' = [] then [48] else A' := by
      rcases hn with ⟨hn, rfl⟩ | ⟨hn, rfl⟩
      · have hA' : A' = [] := List.eq_nil_of_length_eq_zero (by omega)
        rw [if_pos hA']
      · have hA' : A' ≠ [] := by rintro rfl; simp at hlA; omega
        rw [if_neg hA']
        have t : s.data.toList = (g ++ List.replicate z 48) ++ (A' ++ ((if dot then 46 :: D else []) ++ (L ++ (G ++ P)))) := by rw [h.tx, hA]; simp
        refine ext_mid t ?_ ?_ <;> simp only [List.length_append, List.length_replicate] <;> omega
    have hV : (s.extract 0 p3).data.toList = g ++ A ++ (if dot then 46 :: D else []) := by
      have t : s.data.toList = [] ++ ((g ++ A ++ (if dot then 46 :: D else [])) ++ (L ++ (G ++ P))) := by rw [h.tx]; simp
      refine ext_mid t rfl ?_
      simp only [List.length_append, hdl, List.length_nil]
      omega
    refine ⟨hD, hS, ?_, ?_, ?_, ?_, g, A, dot, ⟨hV, h.g, h.a, h.d, h.nd, h.ne, ?_⟩, hsg _⟩
    · rw [hN]
      split
      · exact bd48
      · intro c hc
        exact h.a c (by rw [hA]; exact List.mem_append_right _ hc)
    · rw [hN]
      split
      · simp
      · assumption
    · rw [hN]
      split
      · rename_i hA'
        rw [hA, hA', List.append_nil, bv_zeros]
        exact bv48 D
      · rw [hA, List.append_assoc, bv_zeros]
    · have : num.size = num.data.toList.length := rfl
      rw [this, hN]
      split
      · simp
      · omega
    · have : (s.extract 0 p3).size = (s.extract 0 p3).data.toList.length := rfl
      rw [this, hV]
      simp only [List.length_append, hdl]
      cases dot <;> simp <;> omega
end Go.Proofs.YtcpjclakdpjjfaaGreatDoor
namespace Go.Proofs.YtcpjclakdpjjfaaGreatDoor
open Go.RowKit Wd Dg
theorem pow60 {pow : ByteArray} (hB : BD pow.data.toList) (h2 : pow.size ≤ 2) (h : ¬ (Op.bytesLess pow.toList [54, 48] = false ∧ ¬ pow.toList = [54, 48]) ∨ pow.size ≠ 2) : bv pow.data.toList ≤ 60 := by
  rw [Lib.toList_data] at h
  have hl : pow.size = pow.data.toList.length := rfl
  rw [hl] at h2 h
  generalize pow.data.toList = l at *
  match l, h2 with
  | [], _ => decide
  | [a], _ =>
    have := bv_lt hB
    simp at this
    omega
  | [a, b], _ =>
    have ha := hB a (by simp)
    have hb := hB b (by simp)
    have e : bv [a, b] = (a.toNat - 48) * 10 + (b.toNat - 48) := by
      have := bv_append [a] [b]
      simp [bv, dv] at this ⊢
      omega
    rw [e]
    rcases h with h | h
    · simp [Op.bytesLess] at h
      rcases Nat.lt_or_ge a.toNat 54 with g | g
      · omega
      · obtain ⟨rfl, rfl⟩ := h (UInt8.le_iff_toNat_le.2 g) (fun _ => UInt8.le_iff_toNat_le.2 hb.1)
        decide
    · exact (h rfl).elim
theorem dfz : Dg.DF false [] 0 0 (-170) 240 := by
  have := Dg.DF.none (neg := false) (r := []) (x := 0) (lo := -170) (hi := 240) rfl (by decide) (by decide)
  simpa [dv] using this
theorem results10 (tmps : Array Value) (w : World) (b : Nat) (v0 v1 v2 : Value) (h : Hd w b 27 #[v0, v1, v2]) (h3 : tmps.getD 3 undef = .pointer (some ⟨b, 0, none⟩)) :
    (results Tryz.f10 tmps).run Tryz.prog w = .ok (.tuple #[tmps.getD 2 undef, .agg #[v0, v1, v2], tmps.getD 4 undef, tmps.getD 5 undef]) w := by
  have q0 := h.cell (i := 0) rfl
  have q1 := h.cell (i := 1) rfl
  have q2 := h.cell (i := 2) rfl
  rw [Array.getD_eq_getD_getElem?] at h3
  simp [results, go_sem, h3, q0, q1, q2]
/-- A word's text, its number, its canonical text. -/
def QoRet (sign : Int) (num : ByteArray) (dot : Bool) (den : ByteArray) (kind place ps : Int) (pow : ByteArray) (w : World) (e : Ending) (w' : World) : Prop :=
  ∃ (t : ByteArray) (d : Value) (c : List UInt8) (ok : Bool) (V : Int), e = .returned (.tuple #[.string t, d, .string ⟨c.toArray⟩, .bool ok]) ∧ Dc w' d V (-170) 240 ∧
    (ok = true → QRt sign num dot den kind place ps pow ∧ V = qwV sign num den kind place ps pow ∧ WordT t kind.toNat V ∧ CanTxt kind.toNat V c) ∧ Mod [] w w'
set_option maxRecDepth 20000 in
set_option maxHeartbeats 6400000 in
theorem quantityOf_calls (sign : Int) (num : ByteArray) (dot : Bool) (den : ByteArray) (kind place : Int) (up : Bool) (ps : Int) (pow : ByteArray) (w : World) (h1 : num.size ≤ 2147483647) (h2 : den.size ≤ 2147483647) (h3 : pow.size ≤ 2147483647) :
    Calls Tryz.prog 10 #[qwv sign num dot den kind place up ps pow] w (QoRet sign num dot den kind place ps pow w) := by
  have hd := Hd.new w 23 #[.int .i64 sign, .string num, .bool dot, .string den, .int .i64 kind, .int .i64 place, .bool up, .int .i64 ps, .string pow]
  have hm1 := (Mod.refl [] w).alloc (.cells #[.int .i64 sign, .string num, .bool dot, .string den, .int .i64 kind, .int .i64 place, .bool up, .int .i64 ps, .string pow] 23)
  have R := Lib.hid (fun w' => spec_right sign num dot den kind place up ps pow w' h1 h2 h3)
  have HH := Lib.hid (And.intro hd hm1)
  have hs0 : (w.alloc (.cells #[.int .i64 sign, .string num, .bool dot, .string den, .int .i64 kind, .int .i64 place, .bool up, .int .i64 ps, .string pow] 23)).heap.size = w.heap.size + 1 := by simp
  have HS0 := Lib.hid hs0
  clear hd hm1 hs0
  unfold qwv at *
  go_enter Tryz.func10, Tryz.ntmps10
  go_upto_region 1 with fail
  have hd2 := Hd.new (w.alloc (.cells #[.int .i64 sign, .string num, .bool dot, .string den, .int .i64 kind, .int .i64 place, .bool up, .int .i64 ps, .string pow] 23)) 27 #[.bool false, .slice none 0 0, .int .i64 0]
  have hm2 := (Mod.refl [] (w.alloc (.cells #[.int .i64 sign, .string num, .bool dot, .string den, .int .i64 kind, .int .i64 place, .bool up, .int .i64 ps, .string pow] 23))).alloc (.cells #[.bool false, .slice none 0 0, .int .i64 0] 27)
  rw [HS0.out] at hd2
  have HW := Lib.hid (And.intro (HH.out.1.mod hm2 (by simp)) (And.intro hd2 (HH.out.2.trans hm2)))
  clear hd2 hm2
  generalize (w.alloc (.cells #[.int .i64 sign, .string num, .bool dot, .string den, .int .i64 kind, .int .i64 place, .bool up, .int .i64 ps, .string pow] 23)).alloc (.cells #[.bool false, .slice none 0 0, .int .i64 0] 27) = W at *
  go_cut [35] from 6 to 35 (fun t35 wx => ∃ bb : Bool, t35 = .bool bb ∧ Mod [] W wx ∧ (bb = false → QRt sign num dot den kind place ps pow ∧ num.size + den.size ≤ 100 ∧ pow.size ≤ 2 ∧ (kind = 0 → pow.size ≤ 2 ∧ bv pow.data.toList ≤ 60)))
  case first =>
    have e0 := HW.out.1.cell (i := 0) rfl
    have e1 := HW.out.1.cell (i := 1) rfl
    have e2 := HW.out.1.cell (i := 2) rfl
    have e3 := HW.out.1.cell (i := 3) rfl
    have e4 := HW.out.1.cell (i := 4) rfl
    have e5 := HW.out.1.cell (i := 5) rfl
    have e6 := HW.out.1.cell (i := 6) rfl
    have e7 := HW.out.1.cell (i := 7) rfl
    have e8 := HW.out.1.cell (i := 8) rfl
    go_wp2_with fail
    clear e0 e1 e2 e3 e4 e5 e6 e7 e8
    refine (R.out _).mono ?_
    rintro e w1 ⟨⟨b, rfl, hb⟩, m1⟩
    have hw1 := HW.out.1.mod m1 (by simp)
    have e1 := hw1.cell (i := 1) rfl
    have e3 := hw1.cell (i := 3) rfl
    have e8 := hw1.cell (i := 8) rfl
    have M1 := Lib.hid m1
    have HB := Lib.hid hb
    clear hw1 m1 hb R
    cases b
    · go_wp2_with fail
      go_meet
      case rel => exact ⟨true, rfl, M1.out, fun h => by cases h⟩
    · go_wp2_with fail
      all_goals
        go_meet
        case rel =>
          refine ⟨_, rfl, M1.out, fun hbb => ?_⟩
          have hq := HB.out.1 trivial
          have hbd : kind = 0 → BD pow.data.toList := fun hk => by
            rcases hq.k with ⟨h, -⟩ | ⟨h, -⟩ | ⟨-, h, -⟩
            · omega
            · omega
            · exact h
          first
          | (exfalso; revert hbb; simp; done)
          | (have hs : num.size + den.size ≤ 100 := by omega
             have hp2 : pow.size ≤ 2 := by omega
             refine ⟨hq, hs, hp2, fun hk => ⟨hp2, pow60 (hbd hk) hp2 ?_⟩⟩
             by_cases hz : pow.size = 2
             · left
               first
               | assumption
               | (exfalso; revert hbb; simp [hz]; simp_all; done)
             · exact .inr hz)
  case rest =>
    obtain ⟨bb, rfl, m1, hbb⟩ := hcut
    have hwd := HW.out.1.mod m1 (by simp)
    have hrd := HW.out.2.1.mod m1 (by simp)
    have mw := HW.out.2.2.trans m1
    have HBB := Lib.hid hbb
    have HX := Lib.hid (And.intro hwd (And.intro hrd mw))
    have r0 := hrd.cell (i := 0) rfl
    have r1 := hrd.cell (i := 1) rfl
    have r2 := hrd.cell (i := 2) rfl
    have rf := hrd.free
    clear hwd hrd mw m1 hbb HW R HH
    cases bb
    rotate_left
    · go_upto_region 2 with fail
      go_region_law (fail)
      all_goals (go_wp2_with fail)
      obtain ⟨k1, k2, k3⟩ := dc_put (sl := .slice none 0 0) (ex := 0) HX.out.2.1 (by omega) HX.out.2.2 (Ir.nil _) dfz
      refine bodyPost_ret (results10 _ _ (w.heap.size + 1) _ _ _ (k1.mod ((Mod.refl [] _).drew) (by simp)) rfl) rfl ?_
      exact ⟨⟨#[]⟩, _, [], false, 0, rfl, k2.mod ((Mod.refl [] _).drew), (fun h => by cases h), k3.drew⟩
    · obtain ⟨hq, hsz, hp2, hpw⟩ := HBB.out rfl
      have hp100 : pow.size ≤ 100 := by omega
      have SM := Lib.hid (fun w' => spec_means sign num dot den kind place up ps pow w' hq hsz hpw)
      have SW := Lib.hid (fun w' => spec_write sign num dot den kind place up ps pow w' hq hsz hp100)
      obtain ⟨fn, hfn⟩ : ∃ fn : Nat, kind = fn := ⟨kind.toNat, by rcases hq.k with ⟨h, -⟩ | ⟨h, -⟩ | ⟨h, -⟩ <;> omega⟩
      have hfn3 : fn = 0 ∨ fn = 1 ∨ fn = 2 := by rcases hq.k with ⟨h, -⟩ | ⟨h, -⟩ | ⟨h, -⟩ <;> omega
      have SC := Lib.hid (fun d V w' (h : Dc w' d V (-170) 240) => spec_canonical fn hfn3 d V (-170) 240 w' h (by decide) (by decide))
      rw [← hfn] at SC
      have HK := Lib.hid (And.intro hfn (And.intro hq (And.intro hsz hpw)))
      have e0 := HX.out.1.cell (i := 0) rfl
      have e1 := HX.out.1.cell (i := 1) rfl
      have e2 := HX.out.1.cell (i := 2) rfl
      have e3 := HX.out.1.cell (i := 3) rfl
      have e4 := HX.out.1.cell (i := 4) rfl
      have e5 := HX.out.1.cell (i := 5) rfl
      have e6 := HX.out.1.cell (i := 6) rfl
      have e7 := HX.out.1.cell (i := 7) rfl
      have e8 := HX.out.1.cell (i := 8) rfl
      clear hfn hfn3 hq hsz hp2 hp100 hpw HBB
      unfold qwv at SM SW
      go_wp2_with fail
      refine (SM.out _).mono ?_
      rintro e w2 ⟨d, rfl, ⟨neg, sl, l, ex, rfl, hir, hF⟩, m2⟩
      obtain ⟨k1, k2, k3⟩ := dc_put (w := w) (HX.out.2.1.mod m2 (by simp)) (by omega) (HX.out.2.2.trans m2) hir hF
      have hr2 := HX.out.2.1.mod m2 (by simp)
      have r0 := hr2.cell (i := 0) rfl
      have r1 := hr2.cell (i := 1) rfl
      have r2 := hr2.cell (i := 2) rfl
      have rf := hr2.free
      obtain ⟨sa, sc', rfl, -, -⟩ := hir.form
      have hw3 : Hd (((w2.setCell ⟨w.heap.size + 1, 0, none⟩ (.bool neg)).setCell ⟨w.heap.size + 1, 1, none⟩ (.slice sa l.length sc')).setCell ⟨w.heap.size + 1, 2, none⟩ (.int .i64 ex)) w.heap.size 23 _ :=
        (HX.out.1.mod m2 (by simp)).mod (S := [w.heap.size + 1]) ((((Mod.refl [w.heap.size + 1] w2).setCell _ (.inl (by simp))).setCell _ (.inl (by simp))).setCell _ (.inl (by simp))) (by simp)
      have KK := Lib.hid (And.intro k1 (And.intro k2 (And.intro k3 hw3)))
      clear hr2 k1 k2 k3 hw3 hir hF m2 SM e0 e1 e2 e3 e4 e5 e6 e7 e8
      unfold dcv
      go_upto_region 4 with fail
      obtain ⟨k1, k2, k3, hw3⟩ := KK.out
      clear r0 r1 r2 rf KK
      generalize ((w2.setCell ⟨w.heap.size + 1, 0, none⟩ (.bool neg)).setCell ⟨w.heap.size + 1, 1, none⟩ (.slice sa l.length sc')).setCell ⟨w.heap.size + 1, 2, none⟩ (.int .i64 ex) = W3 at *
      have r0 := k1.cell (i := 0) rfl
      have r1 := k1.cell (i := 1) rfl
      have r2 := k1.cell (i := 2) rfl
      have e4 := hw3.cell (i := 4) rfl
      have SC' := Lib.hid (SC.out _ _ W3 k2)
      have KK := Lib.hid (And.intro k1 (And.intro k2 (And.intro k3 hw3)))
      unfold dcv at SC'
      clear k1 k2 k3 hw3 SC
      go_wp2_with fail
      refine SC'.out.mono ?_
      rintro e w4 ⟨t, ok, rfl, hok, hct, m4⟩
      have HC := Lib.hid (And.intro hok hct)
      have M4 := Lib.hid m4
      clear hok hct m4 r0 r1 r2 e4 SC'
      go_upto_region 5 with fail
      have HP := Lib.hid (fun (w' : World) (m : Mod [] w4 w') => show Hd w' (w.heap.size + 1) 27 _ ∧ Hd w' w.heap.size 23 _ from ⟨(KK.out.1.mod M4.out (by simp)).mod m (by simp), (KK.out.2.2.2.mod M4.out (by simp)).mod m (by simp)⟩)
      obtain ⟨h27, h23⟩ := HP.out w4 (Mod.refl _ _)
      have r0 := h27.cell (i := 0) rfl
      have r1 := h27.cell (i := 1) rfl
      have r2 := h27.cell (i := 2) rfl
      have rf := h27.free
      have e0 := h23.cell (i := 0) rfl
      have e1 := h23.cell (i := 1) rfl
      have e2 := h23.cell (i := 2) rfl
      have e3 := h23.cell (i := 3) rfl
      have e4 := h23.cell (i := 4) rfl
      have e5 := h23.cell (i := 5) rfl
      have e6 := h23.cell (i := 6) rfl
      have e7 := h23.cell (i := 7) rfl
      have e8 := h23.cell (i := 8) rfl
      clear h27 h23
      go_region_law (first | (go_simp; go_at_call 34; refine (SW.out _).mono ?_; rintro e w5 ⟨rfl, m5⟩; have M5 := Lib.hid (((Mod.refl [] w4).drewN _).trans m5); have r0 := (HP.out w5 M5.out).1.cell (i := 0) rfl; have r1 := (HP.out w5 M5.out).1.cell (i := 1) rfl; have r2 := (HP.out w5 M5.out).1.cell (i := 2) rfl; have rf := (HP.out w5 M5.out).1.free; clear m5))
      all_goals (go_wp2_with fail)
      all_goals
        obtain ⟨neg', sl', l', ex', heq, hir, hF⟩ := (KK.out.2.1.mod M4.out).mod M5.out
        unfold dcv at heq
        simp only [Value.agg.injEq, Array.mk.injEq, List.cons.injEq, Value.bool.injEq, Value.int.injEq, true_and, and_true] at heq
        obtain ⟨rfl, rfl, rfl⟩ := heq
        obtain ⟨k1, k2, k3⟩ := dc_put (w := w) (HP.out w5 M5.out).1 (by omega) ((KK.out.2.2.1.trans M4.out).trans M5.out) hir hF
        have hkn : kind.toNat = fn := by rw [HK.out.1]; rfl
        have fin : ∀ W', Mod [] (((w5.setCell ⟨w.heap.size + 1, 0, none⟩ (.bool neg)).setCell ⟨w.heap.size + 1, 1, none⟩ (.slice sa l.length sc')).setCell ⟨w.heap.size + 1, 2, none⟩ (.int .i64 ex)) W' → QoRet sign num dot den kind place ps pow w (.returned (.tuple #[.string ⟨(qtxt sign num dot den kind place up ps pow).toArray⟩, dcv neg (.slice sa l.length sc') ex, .string ⟨t.toArray⟩, .bool ok])) W' := fun W' m =>
          ⟨_, _, t, ok, _, rfl, k2.mod m, fun hk => ⟨HK.out.2.1, rfl, qtxt_word up HK.out.2.1 HK.out.2.2.1 HK.out.2.2.2 (by rw [hkn]; exact HC.out.1.1 hk), by rw [hkn]; exact HC.out.2 hk⟩, k3.trans m⟩
        first
        | (refine bodyPost_ret (results10 _ _ (w.heap.size + 1) _ _ _ k1 rfl) rfl ?_
           exact fin _ (Mod.refl [] _))
        | (refine bodyPost_ret (results10 _ _ (w.heap.size + 1) _ _ _ (k1.mod ((Mod.refl [] _).drew) (by simp)) rfl) rfl ?_
           exact fin _ ((Mod.refl [] _).drew))
        | (refine bodyPost_ret (results10 _ _ (w.heap.size + 1) _ _ _ (k1.mod ((Mod.refl [] _).drewN _) (by simp)) rfl) rfl ?_
           exact fin _ ((Mod.refl [] _).drewN _))
end Go.Proofs.YtcpjclakdpjjfaaGreatDoor
