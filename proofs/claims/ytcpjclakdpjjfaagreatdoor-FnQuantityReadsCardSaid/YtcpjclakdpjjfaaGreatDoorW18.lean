/- Decimals (inf/dec.go): Cmp, Add, Sub, Mul, Neg, Unscaled. Decimals (inf/dec.go): Mul, Neg, Unscaled; bounds. Rounding (inf/dec.go): quoRem. -/
import Derived.Test.YtcpjclakdpjjfaaGreatDoorW17
import Derived.Test.YtcpjclakdpjjfaaGreatDoorW12
import Derived.Test.YtcpjclakdpjjfaaGreatDoorW13
import Derived.Test.YtcpjclakdpjjfaaGreatDoorW05
import Derived.Test.YtcpjclakdpjjfaaGreatDoorW14
namespace Go.Proofs.YtcpjclakdpjjfaaGreatDoor
open Go.RowKit Wd Dg
theorem IA.unique {w : World} {b : Nat} {s s' n n' : Int} {v v' : Value} (h : IA w b (some s) n v) (k : IA w b (some s') n' v') : s = s' ∧ v = v' := by
  have e := h.hd.symm.trans k.hd
  simp only [hty, hdr, Option.some.injEq, Obj.cells.injEq, and_true] at e
  simp at e
  exact ⟨e.2.2, e.2.1⟩
set_option maxHeartbeats 400000 in
theorem dec_setScale' (b : Nat) (s c : Int) (n : Int) (v : Value) (w : World) (h : IA w b (some s) n v) :
    Calls Tryz.prog 65 #[.pointer (some ⟨b, 0, none⟩), .int .i32 c] w fun e w' => e = .returned (.pointer (some ⟨b, 0, none⟩)) ∧ w.setCell ⟨b, 2, none⟩ (.int .i32 c) = w' := by
  have c2 := h.scale
  have f2 := h.free 2
  clear h
  go_enter Tryz.func65, Tryz.ntmps65
  go_wp2_with fail
  go_ret
  exact ⟨rfl, rfl⟩
/-- The number of a decimal, in parts of ten to the power of -400. -/
def dV (n s : Int) : Int := n * sc (-s)
theorem dV_up {n s c : Int} {k : Nat} (hc : c = s + k) (hlo : c ≤ 400) : dV (n * (10 ^ k : Nat)) c = dV n s := by
  unfold dV
  have : -s = -c + k := by omega
  rw [this, sc_add (by omega), Int.natCast_mul, Int.mul_assoc, Int.mul_comm (sc (-c) : Int)]
theorem cmpZI_mul {x y : Int} {p : Nat} (hp : 0 < p) : cmpZI (x * p) (y * p) = cmpZI x y := by
  have hp' : (0 : Int) < p := by omega
  unfold cmpZI
  have e1 : x * p < y * p ↔ x < y := by
    constructor
    · intro h; exact Int.lt_of_mul_lt_mul_right h (by omega)
    · intro h; exact Int.mul_lt_mul_of_pos_right h hp'
  have e2 : y * p < x * p ↔ y < x := by
    constructor
    · intro h; exact Int.lt_of_mul_lt_mul_right h (by omega)
    · intro h; exact Int.mul_lt_mul_of_pos_right h hp'
  simp only [e1, e2]
theorem UpRes.cmp {w w' : World} {a b : Nat} {sa sb' na nb : Int} {ba bb : Nat} {va vb : Value} {c na' nb' : Int} (h : UpRes w a b sa sb' na nb ba bb va vb c na' nb' w') (h2 : sa ≤ 300) (h4 : sb' ≤ 300) : cmpZI na' nb' = cmpZI (dV na sa) (dV nb sb') := by
  obtain ⟨ka, kb, e1, e2, e3, e4, e5⟩ := h.val
  have hc : c ≤ 400 := by omega
  rw [← dV_up e1 hc, ← dV_up e2 hc, ← e3, ← e4]
  unfold dV
  rw [cmpZI_mul (sc_pos _)]
def DCmpRet (w : World) (r : Int) (e : Ending) (w' : World) : Prop := e = .returned (.int .i64 r) ∧ Mod [] w w'
set_option maxHeartbeats 1600000 in
theorem dec_cmp (a b : Nat) (sa sb' na nb : Int) (va vb : Value) (w : World) (he : Env w) (ha : IA w a (some sa) na va) (hb : IA w b (some sb') nb vb) (hne : a ≠ b)
    (h1 : -300 ≤ sa) (h2 : sa ≤ 300) (h3 : -300 ≤ sb') (h4 : sb' ≤ 300) (h5 : sa - sb' ≤ 350) (h6 : sb' - sa ≤ 350) (hA : na.natAbs < Big) (hB : nb.natAbs < Big)
    (hA' : ∀ k : Nat, sb' = sa + k → (na * (10 ^ k : Nat)).natAbs < Big) (hB' : ∀ k : Nat, sa = sb' + k → (nb * (10 ^ k : Nat)).natAbs < Big) :
    Calls Tryz.prog 78 #[.pointer (some ⟨a, 0, none⟩), .pointer (some ⟨b, 0, none⟩)] w (DCmpRet w (cmpZI (dV na sa) (dV nb sb'))) := by
  have HU := Lib.hid (dec_upscale a b sa sb' na nb va vb w he ha hb hne h1 h2 h3 h4 h5 h6 hA hB hA' hB')
  have HBND := Lib.hid (And.intro (And.intro hA hB) (And.intro hA' (And.intro hB' (And.intro h2 h4))))
  clear he ha hb hne hA hB hA' hB' h1 h2 h3 h4 h5 h6
  go_enter Tryz.func78, Tryz.ntmps78
  go_wp2_with fail
  refine HU.out.mono ?_
  rintro e w1 ⟨ba, bb, va', vb', c, na', nb', rfl, hu⟩
  obtain ⟨ka, kb, e1, e2, e3, e4, e5⟩ := hu.val
  have bA : na'.natAbs < Big := by
    rcases e5 with rfl | rfl
    · rw [e3]; simpa using HBND.out.1.1
    · rw [e3]; exact HBND.out.2.1 ka (by omega)
  have bB : nb'.natAbs < Big := by
    rcases e5 with rfl | rfl
    · rw [e4]; exact HBND.out.2.2.1 kb (by omega)
    · rw [e4]; simpa using HBND.out.1.2
  have HC := Lib.hid (int_cmp ba bb (some c) (some c) na' nb' va' vb' w1 hu.ra hu.rb hu.ne bA bB)
  have HR := Lib.hid (And.intro (hu.cmp HBND.out.2.2.2.1 HBND.out.2.2.2.2) hu.mod)
  clear hu e1 e2 e3 e4 e5 bA bB
  go_wp2_with fail
  refine (dec_unscaledBig ba w1).mono ?_
  rintro e w2 ⟨rfl, rfl⟩
  go_wp2_with fail
  refine (dec_unscaledBig bb w1).mono ?_
  rintro e w2 ⟨rfl, rfl⟩
  go_wp2_with fail
  refine HC.out.mono ?_
  rintro e w2 ⟨rfl, m, rfl⟩
  go_wp2_with fail
  go_ret
  exact ⟨by rw [HR.out.1]; rfl, HR.out.2.drewN m⟩
theorem UpRes.add {w w' : World} {a b : Nat} {sa sb' na nb : Int} {ba bb : Nat} {va vb : Value} {c na' nb' : Int} (h : UpRes w a b sa sb' na nb ba bb va vb c na' nb' w') (h2 : sa ≤ 300) (h4 : sb' ≤ 300) : dV (na' + nb') c = dV na sa + dV nb sb' := by
  obtain ⟨ka, kb, e1, e2, e3, e4, e5⟩ := h.val
  have hc : c ≤ 400 := by omega
  rw [← dV_up e1 hc, ← dV_up e2 hc, ← e3, ← e4]
  unfold dV
  rw [Int.add_mul]
theorem UpRes.sub {w w' : World} {a b : Nat} {sa sb' na nb : Int} {ba bb : Nat} {va vb : Value} {c na' nb' : Int} (h : UpRes w a b sa sb' na nb ba bb va vb c na' nb' w') (h2 : sa ≤ 300) (h4 : sb' ≤ 300) : dV (na' - nb') c = dV na sa - dV nb sb' := by
  obtain ⟨ka, kb, e1, e2, e3, e4, e5⟩ := h.val
  have hc : c ≤ 400 := by omega
  rw [← dV_up e1 hc, ← dV_up e2 hc, ← e3, ← e4]
  unfold dV
  rw [Int.sub_mul]
end Go.Proofs.YtcpjclakdpjjfaaGreatDoor
namespace Go.Proofs.YtcpjclakdpjjfaaGreatDoor
open Go.RowKit Wd Dg
theorem IA.setScale0 {w : World} {b : Nat} {s : Int} {n : Int} {v : Value} (h : IA w b (some s) n v) (c : Int) {d : Nat} {s' : Option Int} {m : Int} {u : Value} (k : IA w d s' m u) (hne : d ≠ b) : IA (w.setCell ⟨b, 2, none⟩ (.int .i32 c)) d s' m u :=
  k.mod ((Mod.refl [b] w).setCell (p := ⟨b, 2, none⟩) (.int .i32 c) (.inl (by simp))) (by simp [hne]) (fun j hj hx => h.not_sb k.nv.zs (List.mem_singleton.1 hx ▸ hj))
set_option maxHeartbeats 1600000 in
theorem dec_neg (a : Nat) (sa na : Int) (va : Value) (w : World) (ha : IA w a (some sa) na va) :
    Calls Tryz.prog 74 #[.pointer (some ⟨a, 0, none⟩), .pointer (some ⟨a, 0, none⟩)] w (IntRet w a va (some sa) (-na)) := by
  have HS := Lib.hid (dec_scale a sa na va w ha)
  have HT := Lib.hid (dec_setScale' a sa sa na va w ha)
  have hst := ha.setScale sa
  have HN := Lib.hid (int_neg a (some sa) na va _ hst.ia)
  have HST := Lib.hid hst
  clear ha hst
  go_enter Tryz.func74, Tryz.ntmps74
  go_wp2_with fail
  refine HS.out.mono ?_
  rintro e w1 ⟨rfl, rfl⟩
  go_wp2_with fail
  refine HT.out.mono ?_
  rintro e w1 ⟨rfl, rfl⟩
  generalize w.setCell ⟨a, 2, none⟩ (.int .i32 sa) = w2 at *
  go_wp2_with fail
  refine (dec_unscaledBig a w2).mono ?_
  rintro e w3 ⟨rfl, rfl⟩
  go_wp2_with fail
  refine (dec_unscaledBig a w2).mono ?_
  rintro e w3 ⟨rfl, rfl⟩
  go_wp2_with fail
  refine HN.out.mono ?_
  rintro e w3 ⟨rfl, v', hr⟩
  have H3 := Lib.hid (HST.out.trans hr)
  clear hr
  go_wp2_with fail
  go_ret
  exact ⟨rfl, _, H3.out⟩
/-- Unscaled: the number as an int64, and whether it is one. -/
def UnsRet (n : Int) (w : World) (e : Ending) (w' : World) : Prop := e = .returned (.tuple #[.int .i64 (wrap64 n), .bool (cmpZI (wrap64 n) n == 0)]) ∧ Mod [] w w'
set_option maxRecDepth 10000 in
set_option maxHeartbeats 1600000 in
theorem dec_unscaled (a : Nat) (sa na : Int) (va : Value) (w : World) (he : Env w) (ha : IA w a (some sa) na va) (hA : na.natAbs < Big) :
    Calls Tryz.prog 75 #[.pointer (some ⟨a, 0, none⟩)] w (UnsRet na w) := by
  have H1 := Lib.hid (int_int64 a (some sa) na va w ha)
  have hz := new_zero w he.big
  have hap := hz.apart ha
  have hr64 := wrap64_i64 na
  unfold i64 at hr64
  have hB : (wrap64 na).natAbs < Big := by
    have : (wrap64 na).natAbs < B := by rw [B_eq]; omega
    rw [Big_eq]; exact Nat.lt_of_lt_of_le this (Nat.le_self_pow (by decide) B)
  have hset := fun k => int_setInt64 w.heap.size none 0 (.slice none 0 0) (wrap64 na) _ (hz.ia.drewN k) hr64.1 hr64.2
  have HSET := Lib.hid hset
  have HZ := Lib.hid (And.intro hz (And.intro hap (And.intro hA hB)))
  clear hset hz hap hA hB hr64 he ha
  generalize hu : wrap64 na = u at *
  go_enter Tryz.func75, Tryz.ntmps75
  go_wp2_with fail
  refine H1.out.mono ?_
  rintro e w1 ⟨rfl, rfl⟩
  go_wp2_with fail
  go_region_law (first | (go_simp; go_at_call 114; refine (HSET.out _).mono ?_; rintro e w2 ⟨rfl, v', hr⟩; have HR := Lib.hid hr; have HC := Lib.hid (int_cmp w.heap.size a none (some sa) u na v' va w2 hr.ia (hr.other (HZ.out.2.1.2.2.drewN _) (HZ.out.1.ia.drewN _) HZ.out.2.1.1 HZ.out.2.1.2.1) HZ.out.2.1.1.symm HZ.out.2.2.2 HZ.out.2.2.1); clear hr) | (go_simp; go_at_call 115; refine HC.out.mono ?_; rintro e w3 ⟨rfl, m, rfl⟩))
  all_goals
    go_wp2_with fail
    go_ret2
    refine ⟨by first | rfl | (rw [hu]; rfl), ?_⟩
    exact ((HZ.out.1.mod.drewN _).step HR.out.mod (fun x hx => by simp [sb] at hx; omega)).drewN m
end Go.Proofs.YtcpjclakdpjjfaaGreatDoor
namespace Go.Proofs.YtcpjclakdpjjfaaGreatDoor
open Go.RowKit Wd Dg
/-- Dividend and divisor, laid for the division: n/1 at scale sx brought to scale s. -/
def QD (n sx s nix niy : Int) : Prop := (∃ k : Nat, s = sx + k ∧ nix = n * (10 ^ k : Nat) ∧ niy = 1) ∨ (∃ k : Nat, sx = s + k ∧ nix = n ∧ niy = (10 ^ k : Nat))
structure QOps (w : World) (n sx s : Int) (bz br bd bix biy : Nat) (nix niy : Int) (six siy : Option Int) (vix viy : Value) (wx : World) : Prop where
  x : IA wx bix six nix vix
  y : IA wx biy siy niy viy
  mod : Mod [] w wx
  ne : bix ≠ bz ∧ bix ≠ br ∧ bix ≠ bd ∧ biy ≠ bz ∧ biy ≠ br ∧ biy ≠ bd
  qd : QD n sx s nix niy
  bx : nix.natAbs < Big
  by' : niy.natAbs < B ^ 39
theorem QD.pos {n sx s nix niy : Int} (h : QD n sx s nix niy) : 0 < niy := by
  rcases h with ⟨k, _, _, rfl⟩ | ⟨k, _, _, rfl⟩
  · decide
  · have := Nat.pow_pos (n := k) (show 0 < 10 by decide); omega
structure QRD (w : World) (n sx s : Int) (bz br bd : Nat) (nix niy : Int) (vq vr vd : Value) (w' : World) : Prop where
  qd : QD n sx s nix niy
  q : IA w' bz (some s) (nix.tdiv niy) vq
  r : IA w' br none (nix.tmod niy) vr
  d : IA w' bd none niy vd
  mod : Mod [bz, br, bd] w w'
  own : (∀ j, j ∈ sb vq → w.heap.size ≤ j) ∧ (∀ j, j ∈ sb vr → w.heap.size ≤ j) ∧ (∀ j, j ∈ sb vd → w.heap.size ≤ j)
  big : nix.natAbs < Big
def QRDRet (w : World) (n sx s : Int) (bz br bd : Nat) (e : Ending) (w' : World) : Prop :=
  e = .returned (.tuple #[.pointer (some ⟨bz, 0, none⟩), .pointer (some ⟨br, 0, none⟩), .pointer (some ⟨bd, 0, none⟩)]) ∧ ∃ nix niy vq vr vd, QRD w n sx s bz br bd nix niy vq vr vd w'
theorem IA.other1 {w w' : World} {b c : Nat} {s s' : Option Int} {n n' : Int} {v u : Value} (h : IntRes w b (.slice none 0 0) s n v w') {n0 : Int} {s0 : Option Int} (k : IA w c s' n' u) (hne : c ≠ b) (hb : IA w b s0 n0 (.slice none 0 0)) : IA w' c s' n' u :=
  h.other k hb hne (by simp [sb])
theorem QRInt.other {w w' : World} {bz br c : Nat} {vz vr u v v2 : Value} {sz sr s1 s2 s : Option Int} {q r n1 n2 n : Int} (h : QRInt w bz br vz vr sz sr q r v v2 w') (hz : IA w bz s1 n1 vz) (hr : IA w br s2 n2 vr) (k : IA w c s n u)
    (h1 : c ≠ bz) (h2 : c ≠ br) (d1 : ∀ j, j ∈ sb u → j ∉ sb vz) (d2 : ∀ j, j ∈ sb u → j ∉ sb vr) : IA w' c s n u :=
  k.mod h.mod (by simp only [List.mem_cons, List.mem_append, not_or]; exact ⟨h1, h2, k.not_sb hz.nv.zs, k.not_sb hr.nv.zs⟩)
    (fun j hj => by simp only [List.mem_cons, List.mem_append, not_or]; exact ⟨fun e => hz.not_sb k.nv.zs (e ▸ hj), fun e => hr.not_sb k.nv.zs (e ▸ hj), d1 j hj, d2 j hj⟩)
set_option maxRecDepth 10000 in
set_option maxHeartbeats 4000000 in
theorem dec_quoRem (bz bx bY br bd : Nat) (n sx s : Int) (vx vy : Value) (w : World) (he : Env w) (hz : IA w bz (some 0) 0 (.slice none 0 0)) (hx : IA w bx (some sx) n vx) (hy : IA w bY (some 0) 1 vy)
    (hr : IA w br none 0 (.slice none 0 0)) (hdd : IA w bd none 0 (.slice none 0 0)) (n1 : bx ≠ bz) (n2 : bx ≠ br) (n3 : bx ≠ bd) (n4 : bY ≠ bz) (n5 : bY ≠ br) (n6 : bY ≠ bd) (n7 : bz ≠ br) (n8 : bz ≠ bd) (n9 : br ≠ bd)
    (h1 : -300 ≤ sx) (h2 : sx ≤ 300) (h3 : -300 ≤ s) (h4 : s ≤ 300) (h5 : s - sx ≤ 350) (h6 : sx - s ≤ 350) (hA : n.natAbs < Big) (hA' : ∀ k : Nat, s = sx + k → (n * (10 ^ k : Nat)).natAbs < Big) :
    Calls Tryz.prog 187 #[.pointer (some ⟨bz, 0, none⟩), .pointer (some ⟨bx, 0, none⟩), .pointer (some ⟨bY, 0, none⟩), .int .i32 s, .bool true, .pointer (some ⟨br, 0, none⟩), .pointer (some ⟨bd, 0, none⟩)] w (QRDRet w n sx s bz br bd) := by
  have HS1 := Lib.hid (dec_scale bx sx n vx w hx)
  have HS2 := Lib.hid (dec_scale bY 0 1 vy w hy)
  have e1 : IntKind.i32.wrap (sx - 0) = sx := by rw [IntKind.wrap_i32]; omega
  have e2 : IntKind.i32.wrap (s - sx) = s - sx := by rw [IntKind.wrap_i32]; omega
  go_enter Tryz.func187, Tryz.ntmps187
  go_wp2_with fail
  refine HS1.out.mono ?_
  rintro e w1 ⟨rfl, rfl⟩
  go_wp2_with fail
  refine HS2.out.mono ?_
  rintro e w1 ⟨rfl, rfl⟩
  go_upto_block 0 with fail
  go_cut [18, 19] from 17 to 56 (fun t18 t19 w0 => ∃ (wx : World) (bix biy : Nat) (nix niy : Int) (six siy : Option Int) (vix viy : Value), wx = w0 ∧ t18 = .pointer (some ⟨bix, 0, none⟩) ∧ t19 = .pointer (some ⟨biy, 0, none⟩) ∧ QOps w n sx s bz br bd bix biy nix niy six siy vix viy wx)
  case first =>
    rcases Int.lt_trichotomy sx s with hlt | heq | hgt
    · obtain ⟨k, hk⟩ := Int.eq_ofNat_of_zero_le (show 0 ≤ s - sx by omega)
      obtain rfl : s = sx + k := by omega
      have hn := new_zero w he.big
      have hen := hn.env he
      have HE := Lib.hid (exp10_calls k _ hen (by omega) (by omega))
      have HB := Lib.hid (And.intro (hA' k rfl) (pow10_lt k 39 (by omega)))
      have HN := Lib.hid (And.intro hn hen)
      have H0 := Lib.hid (And.intro he (And.intro hx (And.intro hy (And.intro hA (And.intro hz (And.intro hr hdd))))))
      have NE := Lib.hid (And.intro n4 (And.intro n5 n6))
      have t3 : decide (0 < k) = true := by simp; omega
      have e3 : sx + (k : Int) - sx = k := by omega
      rw [e3]
      have hk350 : k ≤ 350 := by omega
      clear hn hen he hx hy hA hA' hz hr hdd hk n1 n2 n3 n4 n5 n6 h1 h2 h3 h4 h5 h6 hlt e1 e2 HS1 HS2
      go_wp2_with fail
      refine (dec_unscaledBig bx _).mono ?_
      rintro e w1 ⟨rfl, rfl⟩
      go_wp2_with fail
      refine HE.out.mono ?_
      rintro e w1 ⟨be, ve, rfl, h3⟩
      obtain ⟨hn, hen⟩ := HN.out
      obtain ⟨he, hx, hy, hA, hz, hr, hdd⟩ := H0.out
      have x1 := (h3.apart (hn.apart hx).2.2)
      have i1 := h3.apart hn.ia
      have HM := Lib.hid (int_mul w.heap.size bx be none (some sx) none 0 n _ _ vx ve w1 i1.2.2 x1.2.2 h3.ia (h3.env hen) x1.1 hA (by rw [Int.natAbs_natCast]; exact HB.out.2))
      have H3 := Lib.hid (And.intro h3 (h3.apart (hn.apart hy).2.2).2.2)
      clear h3 hn hen he hx hy hA hz hr hdd x1 i1
      go_wp2_with fail
      refine HM.out.mono ?_
      rintro e w2 ⟨rfl, v', h4⟩
      have H4 := Lib.hid h4
      clear h4
      go_wp2_with fail
      refine (dec_unscaledBig bY _).mono ?_
      rintro e w3 ⟨rfl, rfl⟩
      go_wp2_with fail
      go_meet
      case rel =>
        obtain ⟨hn, hen⟩ := HN.out
        obtain ⟨h3, hy3⟩ := H3.out
        have h4 := H4.out
        obtain ⟨he, hx, hy, hA, hz, hr, hdd⟩ := H0.out
        obtain ⟨n4, n5, n6⟩ := NE.out
        have l1 := hz.lt
        have l2 := hr.lt
        have l3 := hdd.lt
        have l4 := hy.lt
        have hY : IA w2 bY (some 0) 1 vy := hy3.mod h4.mod (by simp [sb]; omega) (by simp [sb]; intro j hj e; have := hy.nv.zs.lt j hj; omega)
        exact ⟨_, _, bY, _, 1, none, some 0, v', vy, rfl, rfl, rfl, ⟨h4.ia, hY, (hn.mod.trans h3.mod).step h4.mod (fun x hx => by simp [sb] at hx; omega), ⟨by omega, by omega, by omega, n4, n5, n6⟩, .inl ⟨k, rfl, rfl, rfl⟩, HB.out.1, by
          have hb : 1 < B := by rw [B_eq]; decide
          exact Nat.lt_of_lt_of_le hb (Nat.le_self_pow (by decide) B)⟩⟩
    · subst heq
      rw [Int.sub_self]
      have F : QOps w n sx sx bz br bd bx bY n 1 (some sx) (some 0) vx vy w := ⟨hx, hy, Mod.refl _ _, ⟨n1, n2, n3, n4, n5, n6⟩, .inl ⟨0, by omega, by simp, rfl⟩, hA, by
          have hb : 1 < B := by rw [B_eq]; decide
          exact Nat.lt_of_lt_of_le hb (Nat.le_self_pow (by decide) B)⟩
      have FF := Lib.hid F
      clear F he hx hy hA hA' hz hr hdd n1 n2 n3 n4 n5 n6 h1 h2 h3 h4 h5 h6 e1 e2 HS1 HS2
      go_wp2_with fail
      refine (dec_unscaledBig bx _).mono ?_
      rintro e w1 ⟨rfl, rfl⟩
      go_wp2_with fail
      refine (dec_unscaledBig bY _).mono ?_
      rintro e w1 ⟨rfl, rfl⟩
      go_wp2_with fail
      go_meet
      case rel => exact ⟨_, bx, bY, n, 1, _, _, vx, vy, rfl, rfl, rfl, FF.out⟩
    · obtain ⟨k, hk⟩ := Int.eq_ofNat_of_zero_le (show 0 ≤ sx - s by omega)
      obtain rfl : sx = s + k := by omega
      have hn := new_zero w he.big
      have hen := hn.env he
      have HE := Lib.hid (exp10_calls k _ hen (by omega) (by omega))
      have HB := Lib.hid (pow10_lt k 39 (by omega))
      have HN := Lib.hid (And.intro hn hen)
      have H0 := Lib.hid (And.intro he (And.intro hx (And.intro hy (And.intro hA (And.intro hz (And.intro hr hdd))))))
      have NE := Lib.hid (And.intro n1 (And.intro n2 n3))
      have t3 : decide (0 < -(k : Int)) = false := by simp
      have t5 : decide ((k : Int) < 0) = false := by simp
      have t6 : decide ((0 : Int) < (k : Int)) = true := by simp; omega
      have t7 : decide (0 < k) = true := by simp; omega
      have t4 : decide (-(k : Int) < 0) = true := by simp; omega
      have e3 : s - (s + (k : Int)) = -k := by omega
      rw [e3]
      have hk350 : k ≤ 350 := by omega
      clear hn hen he hx hy hA hA' hz hr hdd hk n1 n2 n3 n4 n5 n6 h1 h2 h3 h4 h5 h6 hgt e1 e2 HS1 HS2
      go_wp2_with fail
      refine (dec_unscaledBig bx _).mono ?_
      rintro e w1 ⟨rfl, rfl⟩
      go_wp2_with fail
      refine (dec_unscaledBig bY _).mono ?_
      rintro e w1 ⟨rfl, rfl⟩
      go_wp2_with fail
      refine HE.out.mono ?_
      rintro e w1 ⟨be, ve, rfl, h3⟩
      obtain ⟨hn, hen⟩ := HN.out
      obtain ⟨he, hx, hy, hA, hz, hr, hdd⟩ := H0.out
      have y1 := (h3.apart (hn.apart hy).2.2)
      have i1 := h3.apart hn.ia
      have HM := Lib.hid (int_mul w.heap.size bY be none (some 0) none 0 1 _ _ vy ve w1 i1.2.2 y1.2.2 h3.ia (h3.env hen) y1.1 (by
        have hb : 1 < B := by rw [B_eq]; decide
        rw [Big_eq]; exact Nat.lt_of_lt_of_le hb (Nat.le_self_pow (by decide) B)) (by rw [Int.natAbs_natCast]; exact HB.out))
      have H3 := Lib.hid (And.intro h3 (h3.apart (hn.apart hx).2.2).2.2)
      clear h3 hn hen he hx hy hA hz hr hdd y1 i1
      go_wp2_with fail
      refine HM.out.mono ?_
      rintro e w2 ⟨rfl, v', h4⟩
      have H4 := Lib.hid h4
      clear h4
      go_wp2_with fail
      go_meet
      case rel =>
        obtain ⟨hn, hen⟩ := HN.out
        obtain ⟨h3, hx3⟩ := H3.out
        have h4 := H4.out
        obtain ⟨he, hx, hy, hA, hz, hr, hdd⟩ := H0.out
        obtain ⟨n1, n2, n3⟩ := NE.out
        have l1 := hz.lt
        have l2 := hr.lt
        have l3 := hdd.lt
        have l4 := hx.lt
        have hX : IA w2 bx (some (s + k)) n vx := hx3.mod h4.mod (by simp [sb]; omega) (by simp [sb]; intro j hj e; have := hx.nv.zs.lt j hj; omega)
        exact ⟨_, bx, _, n, _, _, none, vx, v', rfl, rfl, rfl, ⟨hX, h4.ia, (hn.mod.trans h3.mod).step h4.mod (fun x hx => by simp [sb] at hx; omega), ⟨n1, n2, n3, by omega, by omega, by omega⟩, .inr ⟨k, rfl, rfl, by rw [Int.one_mul]⟩, hA, by rw [Int.one_mul, Int.natAbs_natCast]; exact HB.out⟩⟩
  case rest =>
    obtain ⟨wx, bix, biy, nix, niy, six, siy, vix, viy, rfl, rfl, rfl, Q⟩ := hcut
    have hz1 := hz.mod Q.mod (by simp) (by simp)
    have hr1 := hr.mod Q.mod (by simp) (by simp)
    have hd1 := hdd.mod Q.mod (by simp) (by simp)
    have hp := iptr_eql Q.y hz1
    rw [show decide (biy = bz) = false by simp [Q.ne.2.2.2.1]] at hp
    have HT := Lib.hid (dec_setScale' bz 0 s 0 _ wx hz1)
    have hst := hz1.setScale s
    have hx2 := hz1.setScale0 s Q.x Q.ne.1
    have hy2 := hz1.setScale0 s Q.y Q.ne.2.2.2.1
    have hr2 := hz1.setScale0 s hr1 n7.symm
    have hd2 := hz1.setScale0 s hd1 n8.symm
    have he2 : Env (wx.setCell ⟨bz, 2, none⟩ (.int .i32 s)) := (he.mod Q.mod (by simp)).mod hst.mod (fun k hk => by simp [sb] at hk; rw [hk]; exact hz.lo)
    have HQ := Lib.hid Q
    have H2 := Lib.hid (And.intro hst (And.intro hx2 (And.intro hy2 (And.intro hr2 (And.intro hd2 (And.intro he2 (And.intro n7 (And.intro n8 n9))))))))
    have LT := Lib.hid (And.intro hz.lt (And.intro hr.lt hdd.lt))
    clear hz1 hr1 hd1 hst hx2 hy2 hr2 hd2 he2 Q he hx hy hA hA' hz hr hdd n1 n2 n3 n4 n5 n6 n7 n8 n9 h1 h2 h3 h4 h5 h6 e1 e2 HS1 HS2
    go_wp2_with fail
    refine (dec_unscaledBig bz _).mono ?_
    rintro e w1 ⟨rfl, rfl⟩
    go_wp2_with fail
    refine HT.out.mono ?_
    rintro e w1 ⟨rfl, rfl⟩
    generalize wx.setCell ⟨bz, 2, none⟩ (.int .i32 s) = w2 at *
    go_wp2_with fail
    refine (dec_unscaledBig bz _).mono ?_
    rintro e w1 ⟨rfl, rfl⟩
    obtain ⟨hst, hx2, hy2, hr2, hd2, he2, n7, n8, n9⟩ := H2.out
    have hn := new_zero w2 he2.big
    have kz := hn.apart hst.ia
    have kx := hn.apart hx2
    have ky := hn.apart hy2
    have hQR := int_quoRem bz bix biy w2.heap.size (some s) six siy none 0 nix niy 0 (.slice none 0 0) vix viy (.slice none 0 0) _ (hn.env he2) kz.2.2 kx.2.2 ky.2.2 hn.ia HQ.out.ne.1.symm HQ.out.ne.2.2.2.1.symm kz.1 kx.1 ky.1 (by simp [sb]) (by simp [sb]) HQ.out.bx HQ.out.by' HQ.out.qd.pos
    have HQR := Lib.hid hQR
    have HN := Lib.hid (And.intro hn (And.intro (hn.apart hr2).2.2 (And.intro (hn.apart hd2).2.2 ky.2.2)))
    have LTz := Lib.hid hst.ia
    have LT2 := Lib.hid (And.intro hst.ia.lt (And.intro hr2.lt (And.intro hd2.lt hy2.lt)))
    clear hQR hn kz kx ky hst hx2 hy2 hr2 hd2 he2
    go_wp2_with fail
    refine HQR.out.mono ?_
    rintro e w3 ⟨rfl, vq, v2, h3⟩
    obtain ⟨hn, hr3, hd3, hy3⟩ := HN.out
    obtain ⟨l1, l2, l3, l4⟩ := LT2.out
    have zz := hn.apart (LTz.out)
    have hr4 := h3.other zz.2.2 hn.ia hr3 n7.symm (by omega) (by simp [sb]) (by simp [sb])
    have hd4 := h3.other zz.2.2 hn.ia hd3 n8.symm (by omega) (by simp [sb]) (by simp [sb])
    have hy4 := h3.other zz.2.2 hn.ia hy3 HQ.out.ne.2.2.2.1 (by omega) (by simp [sb]) (by simp [sb])
    have hbr : (nix.tmod niy).natAbs < Big := by
      rw [Int.natAbs_tmod]; exact Nat.lt_of_le_of_lt (Nat.mod_le _ _) HQ.out.bx
    have HSR := Lib.hid (int_set br w2.heap.size none none 0 _ (.slice none 0 0) v2 w3 hr4 h3.r (by omega) hbr)
    have H3 := Lib.hid (And.intro h3 (And.intro hr4 (And.intro hd4 (And.intro hy4 hn.mod))))
    clear h3 hn hr3 hd3 hy3 zz hr4 hd4 hy4 hbr
    go_wp2_with fail
    refine HSR.out.mono ?_
    rintro e w4 ⟨rfl, v4, h5⟩
    obtain ⟨h3, hr4, hd4, hy4, hnm⟩ := H3.out
    have hq5 := IA.other1 h5 h3.q n7 hr4
    have hd5 := IA.other1 h5 hd4 n9.symm hr4
    have hy5 := IA.other1 h5 hy4 HQ.out.ne.2.2.2.2.1 hr4
    have hby : niy.natAbs < Big := Nat.lt_trans HQ.out.by' B39_Big
    have HSD := Lib.hid (int_set bd biy none siy 0 niy (.slice none 0 0) viy w4 hd5 hy5 HQ.out.ne.2.2.2.2.2.symm hby)
    have H5 := Lib.hid (And.intro h5 (And.intro hq5 hd5))
    clear h3 hr4 hd4 hy4 hnm h5 hq5 hd5 hy5 hby
    go_wp2_with fail
    refine HSD.out.mono ?_
    rintro e w5 ⟨rfl, v5, h6⟩
    have H6 := Lib.hid h6
    clear h6
    go_wp2_with fail
    refine bodyPost_ret (results_tmp3 rfl _ _ _) rfl ?_
    obtain ⟨h3, hr4, hd4, hy4, hnm⟩ := H3.out
    obtain ⟨h5, hq5, hd5⟩ := H5.out
    have h6 := H6.out
    have m0 := HQ.out.mod
    obtain ⟨hst, _⟩ := H2.out
    have s0 := m0.size
    have s1 := hst.mod.size
    have s2 := hnm.size
    have s3 := h3.mod.size
    have s4 := h5.mod.size
    refine ⟨rfl, nix, niy, vq, v4, v5, HQ.out.qd, IA.other1 h6 hq5 n8 hd5, IA.other1 h6 h5.ia n9 hd5, h6.ia, ?_, ⟨fun j hj => ?_, fun j hj => ?_, fun j hj => ?_⟩, HQ.out.bx⟩
    · exact (((((m0.mono (by simp)).step hst.mod (fun x hx => .inl (by simp [sb] at hx; simp [hx]))).step hnm (by simp)).step h3.mod (fun x hx => by
        simp [sb] at hx
        rcases hx with rfl | rfl
        · exact .inl (by simp)
        · exact .inr (by omega))).step h5.mod (fun x hx => .inl (by simp [sb] at hx; simp [hx]))).step h6.mod (fun x hx => .inl (by simp [sb] at hx; simp [hx]))
    · rcases h3.ownq j hj with h | h
      · simp [sb] at h
      · omega
    · rcases h5.own j hj with h | h
      · simp [sb] at h
      · omega
    · rcases h6.own j hj with h | h
      · simp [sb] at h
      · omega
end Go.Proofs.YtcpjclakdpjjfaaGreatDoor
