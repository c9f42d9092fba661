/- Factors taken out of a whole number (resource/math.go: removeBigIntFactors). Rows of bytes of one's own: appended to, turned to a text. The suffixer's maps: one step of each operation. -/
import Derived.Test.YtcpjclakdpjjfaaGreatDoorW19
import Derived.Test.YtcpjclakdpjjfaaGreatDoorW01
import Derived.Test.YtcpjclakdpjjfaaGreatDoorW11
import Derived.Laws.BytesArg
import Derived.Lib.AppendStr
import Derived.Lib.UnsafeStr
import Derived.Handy
import Derived.StringKeys
import Derived.DeepKeys3
import Derived.Lib.ConvBytes
namespace Go.Proofs.YtcpjclakdpjjfaaGreatDoor
open Go.RowKit Wd Dg
structure RB (w0 : World) (n0 f n : Int) (k bd bq bm bf : Nat) (sd sq : Option Int) (nq nm : Int) (vd vq vm vf : Value) (wr : World) : Prop where
  env : Env wr
  mod : Mod [] w0 wr
  d : IA wr bd sd n vd
  q : IA wr bq sq nq vq
  m : IA wr bm none nm vm
  y : IA wr bf none f vf
  ne : bd ≠ bq ∧ bd ≠ bm ∧ bd ≠ bf ∧ bq ≠ bm ∧ bq ≠ bf ∧ bm ≠ bf
  dq : ∀ j, j ∈ sb vd → j ∉ sb vq
  dm : ∀ j, j ∈ sb vd → j ∉ sb vm
  qm : ∀ j, j ∈ sb vq → j ∉ sb vm
  yd : ∀ j, j ∈ sb vf → j ∉ sb vd
  yq : ∀ j, j ∈ sb vf → j ∉ sb vq
  ym : ∀ j, j ∈ sb vf → j ∉ sb vm
  fr : w0.heap.size ≤ bd ∧ w0.heap.size ≤ bq ∧ w0.heap.size ≤ bm
  fd : ∀ j, j ∈ sb vd → w0.heap.size ≤ j
  fq : ∀ j, j ∈ sb vq → w0.heap.size ≤ j
  fm : ∀ j, j ∈ sb vm → w0.heap.size ≤ j
  eq : n0 = n * ((f.toNat ^ k : Nat) : Int)
  nz : n0 ≠ 0 → n ≠ 0
theorem RB.keep {w0 : World} {n0 f n : Int} {k bd bq bm bf : Nat} {sd sq : Option Int} {nq nm : Int} {vd vq vm vf : Value} {wr w' : World} (h : RB w0 n0 f n k bd bq bm bf sd sq nq nm vd vq vm vf wr) (m : Mod [] wr w') : RB w0 n0 f n k bd bq bm bf sd sq nq nm vd vq vm vf w' :=
  { h with env := h.env.mod m (by simp), mod := h.mod.trans m, d := h.d.mod m (by simp) (by simp), q := h.q.mod m (by simp) (by simp), m := h.m.mod m (by simp) (by simp), y := h.y.mod m (by simp) (by simp) }
theorem QRInt.modSet {w w' : World} {bz br : Nat} {vz vr v v2 : Value} {sz sr : Option Int} {q r : Int} (h : QRInt w bz br vz vr sz sr q r v v2 w') {w0 : World} (m : Mod [] w0 w) (h1 : w0.heap.size ≤ bz) (h2 : w0.heap.size ≤ br) (h3 : ∀ j, j ∈ sb vz → w0.heap.size ≤ j) (h4 : ∀ j, j ∈ sb vr → w0.heap.size ≤ j) : Mod [] w0 w' :=
  m.step h.mod (fun k hk => by
    simp only [List.mem_cons, List.mem_append] at hk
    right
    rcases hk with rfl | rfl | hk | hk
    · exact h1
    · exact h2
    · exact h3 k hk
    · exact h4 k hk)
/-- Behind the division: the quotient stands in q, what is divided stays. -/
theorem RB.after {w0 : World} {n0 f n : Int} {k bd bq bm bf : Nat} {sd sq : Option Int} {nq nm q r : Int} {vd vq vm vf v v2 : Value} {wr w' : World} (h : RB w0 n0 f n k bd bq bm bf sd sq nq nm vd vq vm vf wr)
    (hQ : QRInt wr bq bm vq vm sq none q r v v2 w') : RB w0 n0 f n k bd bq bm bf sd sq q r vd v v2 vf w' := by
  obtain ⟨n1, n2, n3, n4, n5, n6⟩ := h.ne
  have ms := hQ.modSet h.mod h.fr.2.1 h.fr.2.2 h.fq h.fm
  have he : Env w' := h.env.mod hQ.mod (fun j hj => by
    simp only [List.mem_cons, List.mem_append] at hj
    rcases hj with rfl | rfl | hj | hj
    · exact h.q.lo
    · exact h.m.lo
    · exact h.q.vlo j hj
    · exact h.m.vlo j hj)
  have lt1 : ∀ j, j ∈ sb vd → j < wr.heap.size := fun j hj => h.d.nv.zs.lt j hj
  have lt2 : ∀ j, j ∈ sb vf → j < wr.heap.size := fun j hj => h.y.nv.zs.lt j hj
  have sz := h.mod.size
  refine { env := he, mod := ms, d := hQ.other h.q h.m h.d n1 n2 h.dq h.dm, q := hQ.q, m := hQ.r, y := hQ.other h.q h.m h.y n5.symm n6.symm h.yq h.ym, ne := h.ne, dq := ?_, dm := ?_, qm := hQ.apart, yd := h.yd, yq := ?_, ym := ?_, fr := h.fr, fd := h.fd, fq := ?_, fm := ?_, eq := h.eq, nz := h.nz }
  · intro j hj hv
    rcases hQ.ownq j hv with h1 | h1
    · exact h.dq j hj h1
    · have := lt1 j hj; omega
  · intro j hj hv
    rcases hQ.ownr j hv with h1 | h1
    · exact h.dm j hj h1
    · have := lt1 j hj; omega
  · intro j hj hv
    rcases hQ.ownq j hv with h1 | h1
    · exact h.yq j hj h1
    · have := lt2 j hj; omega
  · intro j hj hv
    rcases hQ.ownr j hv with h1 | h1
    · exact h.ym j hj h1
    · have := lt2 j hj; omega
  · intro j hj
    rcases hQ.ownq j hj with h1 | h1
    · exact h.fq j h1
    · omega
  · intro j hj
    rcases hQ.ownr j hj with h1 | h1
    · exact h.fm j h1
    · omega
theorem RB.swap {w0 : World} {n0 f n : Int} {k bd bq bm bf : Nat} {sd sq : Option Int} {q r : Int} {vd vq vm vf : Value} {wr : World} (h : RB w0 n0 f n k bd bq bm bf sd sq q r vd vq vm vf wr) (hf : 0 < f) (hq : q = n / f) (hr : n % f = 0) :
    RB w0 n0 f q (k + 1) bq bd bm bf sq sd n r vq vd vm vf wr := by
  obtain ⟨n1, n2, n3, n4, n5, n6⟩ := h.ne
  have e : n = q * f := by rw [hq]; exact (Int.ediv_mul_cancel (Int.dvd_of_emod_eq_zero hr)).symm
  exact { env := h.env, mod := h.mod, d := h.q, q := h.d, m := h.m, y := h.y, ne := ⟨n1.symm, n4, n5, n2, n3, n6⟩, dq := fun j h1 h2 => h.dq j h2 h1, dm := h.qm, qm := h.dm, yd := h.yq, yq := h.yd, ym := h.ym, fr := ⟨h.fr.2.1, h.fr.1, h.fr.2.2⟩, fd := h.fq, fq := h.fd, fm := h.fm
          eq := by
            rw [h.eq, e, Nat.pow_succ, Int.natCast_mul, Int.toNat_of_nonneg (Int.le_of_lt hf), Int.mul_assoc, Int.mul_comm f]
          nz := fun hn h0 => h.nz hn (by rw [e, h0, Int.zero_mul]) }
theorem RB.le {w0 : World} {n0 f n : Int} {k bd bq bm bf : Nat} {sd sq : Option Int} {nq nm : Int} {vd vq vm vf : Value} {wr : World} (h : RB w0 n0 f n k bd bq bm bf sd sq nq nm vd vq vm vf wr) (hf : 0 < f) : n.natAbs ≤ n0.natAbs := by
  rw [h.eq, Int.natAbs_mul, Int.natAbs_natCast]
  exact Nat.le_mul_of_pos_right _ (Nat.pow_pos (by omega))
set_option exponentiation.threshold 5000 in
theorem big_pow : Big = 2 ^ 4096 := by unfold Big; rw [show B = 2 ^ 64 by rw [B_eq], ← Nat.pow_mul]
set_option exponentiation.threshold 5000 in
theorem zero_Big : (0 : Int).natAbs < Big := by rw [show (0 : Int).natAbs = 0 from rfl, big_pow]; exact Nat.two_pow_pos _
theorem RB.k_lt {w0 : World} {n0 f n : Int} {k bd bq bm bf : Nat} {sd sq : Option Int} {nq nm : Int} {vd vq vm vf : Value} {wr : World} (h : RB w0 n0 f n k bd bq bm bf sd sq nq nm vd vq vm vf wr) (hf : 1 < f) (h0 : n0 ≠ 0) (hB : n0.natAbs < Big) : k < 4096 := by
  have e := congrArg Int.natAbs h.eq
  rw [Int.natAbs_mul, Int.natAbs_natCast] at e
  have h1 : f.toNat ^ k ≤ n0.natAbs := by rw [e]; exact Nat.le_mul_of_pos_left _ (by have := h.nz h0; omega)
  have h2 : 2 ^ k ≤ f.toNat ^ k := Nat.pow_le_pow_left (by omega) k
  rw [big_pow] at hB
  exact (Nat.pow_lt_pow_iff_right (a := 2) (by decide)).1 (Nat.lt_of_le_of_lt (Nat.le_trans h2 h1) hB)
/-- n0 = n * f ^ k, the number n in new storage. -/
def RmRet (w0 : World) (n0 f : Int) (e : Ending) (w' : World) : Prop :=
  ∃ (b k : Nat) (v : Value) (s : Option Int) (n : Int), e = .returned (.tuple #[.pointer (some ⟨b, 0, none⟩), .int .i32 k]) ∧ NewRes w0 s n b v w' ∧ n0 = n * ((f.toNat ^ k : Nat) : Int) ∧ (n0 ≠ 0 → n % f ≠ 0) ∧ (n0 = 0 → k = 0) ∧ k < 4096
theorem cmp0_ne {n : Int} (h : n ≠ 0) : (cmpZI n 0 != 0) = true := by
  unfold cmpZI
  rcases Int.lt_or_gt_of_ne h with h | h
  · rw [if_pos h]; rfl
  · rw [if_neg (by omega), if_pos h]; rfl
theorem cmp0_eq : (cmpZI 0 0 != 0) = false := by decide
set_option maxRecDepth 10000 in
set_option maxHeartbeats 4000000 in
theorem removeBig_calls (w0 : World) (n0 f : Int) (bd bf : Nat) (sd : Option Int) (vd vf : Value) (w : World) (he : Env w) (m0 : Mod [] w0 w) (hd : IA w bd sd n0 vd) (hy : IA w bf none f vf) (hne : bd ≠ bf) (hyd : ∀ j, j ∈ sb vf → j ∉ sb vd)
    (hf1 : 1 < f) (hf2 : f.natAbs < B ^ 39) (hB : n0.natAbs < Big) (hfr : w0.heap.size ≤ bd) (hfd : ∀ j, j ∈ sb vd → w0.heap.size ≤ j) :
    Calls Tryz.prog 125 #[.pointer (some ⟨bd, 0, none⟩), .pointer (some ⟨bf, 0, none⟩)] w (RmRet w0 n0 f) := by
  have H0 := Lib.hid (And.intro he (And.intro m0 (And.intro hd (And.intro hy (And.intro hne (And.intro hyd (And.intro hf1 (And.intro hf2 (And.intro hB (And.intro hfr hfd))))))))))
  have N1 := Lib.hid (newInt_calls 0 w he.big (by decide) (by decide))
  clear he m0 hd hy hne hyd hf1 hf2 hB hfr hfd
  go_enter Tryz.func125, Tryz.ntmps125
  go_wp2_with fail
  refine N1.out.mono ?_
  rintro e w1 ⟨bq, vq, rfl, hq1⟩
  have he1 := hq1.env H0.out.1
  have HQ := Lib.hid hq1
  have N2 := Lib.hid (newInt_calls 0 w1 he1.big (by decide) (by decide))
  clear hq1 he1 N1
  go_wp2_with fail
  refine N2.out.mono ?_
  rintro e w2 ⟨bm, vm, rfl, hm2⟩
  have hRB : RB w0 n0 f n0 0 bd bq bm bf sd none 0 0 vd vq vm vf w2 := by
    obtain ⟨he, m0, hd, hy, hne, hyd, hf1, hf2, hB, hfr, hfd⟩ := H0.out
    have hq1 := HQ.out
    have a1 := hq1.apart hd
    have a2 := hq1.apart hy
    have b1 := hm2.apart a1.2.2
    have b2 := hm2.apart a2.2.2
    have b3 := hm2.apart hq1.ia
    have s1 := m0.size
    have s2 := hq1.mod.size
    exact { env := hm2.env (hq1.env he), mod := (m0.trans hq1.mod).trans hm2.mod, d := b1.2.2, q := b3.2.2, m := hm2.ia, y := b2.2.2, ne := ⟨a1.1, b1.1, hne, b3.1, a2.1.symm, b2.1.symm⟩, dq := a1.2.1, dm := b1.2.1, qm := b3.2.1, yd := hyd, yq := a2.2.1, ym := b2.2.1
            fr := ⟨hfr, Nat.le_trans s1 hq1.own.1, Nat.le_trans s1 (Nat.le_trans s2 hm2.own.1)⟩, fd := hfd, fq := fun j hj => Nat.le_trans s1 (hq1.own.2 j hj), fm := fun j hj => Nat.le_trans s1 (Nat.le_trans s2 (hm2.own.2 j hj)), eq := by simp, nz := id }
  have HR := Lib.hid hRB
  clear hRB hm2 HQ N2
  go_wp2_with fail
  go_loopw [0, 5, 6] (fun t0 t5 t6 wr => ∃ (bd bq k : Nat) (n : Int) (sd sq : Option Int) (nq nm : Int) (vd vq vm : Value), t0 = .pointer (some ⟨bd, 0, none⟩) ∧ t6 = .pointer (some ⟨bq, 0, none⟩) ∧ t5 = .int .i32 k ∧ (n0 = 0 → k = 0) ∧ RB w0 n0 f n k bd bq bm bf sd sq nq nm vd vq vm vf wr) (fun _ t5 _ _ => 5000 - (intOf t5).toNat)
  case atStart => exact ⟨bd, bq, 0, n0, _, _, _, _, _, _, _, rfl, rfl, rfl, fun _ => rfl, HR.out⟩
  case round =>
    obtain ⟨bd, bq, k, n, sd, sq, nq, nm, vd, vq, vm, rfl, rfl, rfl, hk0, hRB⟩ := hrel
    obtain ⟨hf1, hf2, hB, -, -⟩ := H0.out.2.2.2.2.2.2
    have hle := hRB.le (by omega)
    have HB := Lib.hid (And.intro hRB hk0)
    have N3 := Lib.hid (newInt_calls 0 wr hRB.env.big (by decide) (by decide))
    clear hRB hk0
    go_wp2_with fail
    refine N3.out.mono ?_
    rintro e w3 ⟨b0, v0, rfl, h3⟩
    have hRB := HB.out.1.keep h3.mod
    have hap := h3.apart HB.out.1.d
    have C1 := Lib.hid (int_cmp bd b0 sd none n 0 vd v0 w3 hap.2.2 h3.ia hap.1 (by omega) zero_Big)
    have HB3 := Lib.hid hRB
    clear hRB hap h3 N3
    go_wp2_with fail
    refine C1.out.mono ?_
    rintro e w4 ⟨rfl, m, rfl⟩
    by_cases hn : n = 0
    · have hn0 : n0 = 0 := Classical.byContradiction fun h => HB3.out.nz h hn
      have hk := HB.out.2 hn0
      subst hk
      subst hn
      have t1 := cmp0_eq
      have F := Lib.hid (HB3.out.keep (((Mod.refl [] w3).drewN m)))
      clear C1 hf1 hf2 hB hle
      go_wp2_with fail
      go_ret2
      have hF := F.out
      exact ⟨bd, 0, vd, sd, 0, rfl, ⟨hF.d, hF.mod, hF.fr.1, hF.fd⟩, by have := hF.eq; simpa using this, fun h => absurd hn0 h, fun _ => rfl, by decide⟩
    · have t1 := cmp0_ne hn
      have hn0 : n0 ≠ 0 := fun h => hn (by
        have := HB3.out.eq
        rw [h] at this
        rcases Int.mul_eq_zero.1 this.symm with h | h
        · exact h
        · have := Nat.pow_pos (n := k) (show 0 < f.toNat by omega)
          omega)
      have hkl := HB3.out.k_lt hf1 hn0 hB
      have hRB := HB3.out.keep (((Mod.refl [] w3).drewN m))
      obtain ⟨n1, n2, n3, n4, n5, n6⟩ := hRB.ne
      have D := Lib.hid (int_divMod bq bd bf bm sq sd none none nq n f nm vq vd vf vm _ hRB.env hRB.q hRB.d hRB.y hRB.m n1.symm n5 n4 n2 n6.symm hRB.qm hRB.dm hRB.yq hRB.ym (by omega) hf2 (by omega))
      have HB4 := Lib.hid hRB
      have HL := Lib.hid (And.intro hf1 (And.intro hB (And.intro hkl hn0)))
      have hki : (k : Int) < 4096 := by omega
      clear hRB n1 n2 n3 n4 n5 n6 hle hf2 hf1 hB hkl hn hn0 C1
      go_wp2_with fail
      refine D.out.mono ?_
      rintro e w5 ⟨rfl, v, v2, hQ⟩
      have hRB := HB4.out.after hQ
      have HB5 := Lib.hid hRB
      have N6 := Lib.hid (newInt_calls 0 w5 hRB.env.big (by decide) (by decide))
      clear hRB hQ
      go_wp2_with fail
      refine N6.out.mono ?_
      rintro e w6 ⟨b6, v6, rfl, h6⟩
      have hRB := HB5.out.keep h6.mod
      have hap := h6.apart HB5.out.m
      have hbig : (n % f).natAbs < Big := by
        have h2 := HL.out.1
        have h3 : n % f < f := Int.emod_lt_of_pos n (by omega)
        have h4 : 0 ≤ n % f := Int.emod_nonneg n (by omega)
        have h6 := H0.out.2.2.2.2.2.2.2.1
        exact Nat.lt_trans (by omega : (n % f).natAbs < f.natAbs) (Nat.lt_trans h6 B39_Big)
      have C2 := Lib.hid (int_cmp bm b6 none none (n % f) 0 v2 v6 w6 hap.2.2 h6.ia hap.1 hbig zero_Big)
      have HB6 := Lib.hid hRB
      clear hRB hap h6 N6 hbig
      go_wp2_with fail
      refine C2.out.mono ?_
      rintro e w7 ⟨rfl, m2, rfl⟩
      have hRB := HB6.out.keep (((Mod.refl [] w6).drewN m2))
      by_cases hz : n % f = 0
      · have HB7 := Lib.hid (hRB.swap (by have := HL.out.1; omega) rfl hz)
        have t2 : (cmpZI (n % f) 0 != 0) = false := by rw [hz]; exact cmp0_eq
        clear hRB hz C2
        go_wp2_with fail
        go_roundw
        case rel => exact ⟨bq, bd, k + 1, _, _, _, _, _, _, _, _, rfl, rfl, by go_num, fun h => absurd h HL.out.2.2.2, HB7.out⟩
        case measure => simp [intOf]; omega
      · have t2 := cmp0_ne hz
        have F := Lib.hid (And.intro hRB hz)
        clear hRB hz C2
        go_wp2_with fail
        go_ret2
        have hF := F.out.1
        exact ⟨bd, k, vd, sd, n, rfl, ⟨hF.d, hF.mod, hF.fr.1, hF.fd⟩, hF.eq, fun _ => F.out.2, fun h => absurd h HL.out.2.2.2, HL.out.2.2.1⟩
end Go.Proofs.YtcpjclakdpjjfaaGreatDoor
namespace Go.Proofs.YtcpjclakdpjjfaaGreatDoor
open Go.RowKit Wd
theorem info5 : (Tryz.prog.info? 5).map (fun i => (i.zero, i.size, i.bytes)) = some (some (.int .u8 0), 1, 1) := by kernel_rfl
/-- Bytes in a row of one's own. -/
def Bs (w : World) (base : Nat) (v : Value) (l : List UInt8) : Prop := w.ownsRow base 5 1 v l.length (Lib.byteCells l)
theorem Bs.nil (w : World) (base : Nat) : Bs w base (.slice none 0 0) [] := World.ownsRow_nil w base 5 1
theorem Bs.mod {S : List Nat} {w w' : World} {base : Nat} {v : Value} {l : List UInt8} (h : Bs w base v l) (m : Mod S w w') (hS : ∀ k, k ∈ S → k < base) : Bs w' base v l := by
  obtain ⟨h1, h2⟩ := h
  refine ⟨h1, h2.imp_right ?_⟩
  rintro ⟨g, cap, cur, e1, e2, e3, e4⟩
  exact ⟨g, cap, cur, e1, e2, (m.block g (lt_of_heap e3) (fun hg => by have := hS g hg; omega)).trans e3, e4⟩
theorem Bs.base {w : World} {base b2 : Nat} {v : Value} {l : List UInt8} (h : Bs w base v l) (hb : b2 ≤ base) : Bs w b2 v l := by
  obtain ⟨h1, h2⟩ := h
  refine ⟨h1, h2.imp_right ?_⟩
  rintro ⟨g, cap, cur, e1, e2, e3, e4⟩
  exact ⟨g, cap, cur, e1, by omega, e3, e4⟩
theorem Bs.drewN {w : World} {base : Nat} {v : Value} {l : List UInt8} (h : Bs w base v l) (k : Nat) : Bs (w.drewN k) base v l := h.mod ((Mod.refl [] w).drewN k) (by simp)
theorem Bs.form {w : World} {base : Nat} {v : Value} {l : List UInt8} (h : Bs w base v l) : ∃ a c, v = .slice a l.length c ∧ ∀ k, v.ownBlock = some k → base ≤ k ∧ k < w.heap.size := by
  have hlt := World.ownsRow.lt h
  obtain ⟨h1, ⟨rfl, h2⟩ | ⟨g, cap, cur, rfl, h2, h3, h4⟩⟩ := h
  · exact ⟨none, 0, by rw [h2], hlt⟩
  · exact ⟨_, _, rfl, hlt⟩
theorem Bs.cell {w : World} {base : Nat} {l : List UInt8} {g n c : Nat} (h : Bs w base (.slice (some ⟨g, 0, none⟩) n c) l) {i : Nat} (hi : i < l.length) : w.cell? ⟨g, i, none⟩ = some (.int .u8 ((l[i]'hi).toNat : Int)) := by
  obtain ⟨h1, ⟨h2, _⟩ | ⟨g', cap, cur, h2, h3, h4, h5, h6, h7, h8⟩⟩ := h
  · cases h2
  · cases h2
    have e : cur[i]? = some (.int .u8 ((l[i]'hi).toNat : Int)) := by
      have h9 : (cur.toList.take (l.length * 1))[i]? = some (.int .u8 ((l[i]'hi).toNat : Int)) := by
        rw [h8]; simp [Lib.byteCells, hi]
      rw [List.getElem?_take_of_lt (by omega)] at h9
      simpa using h9
    simp [World.cell?, h4, e]
theorem conv_nil (w : World) : (convert 79 9 (.slice none 0 0)).run Tryz.prog w = .ok (.string ⟨#[]⟩) w := by kernel_rfl
theorem Bs.conv {w : World} {base : Nat} {v : Value} {l : List UInt8} (h : Bs w base v l) : (convert 79 9 v).run Tryz.prog w = .ok (.string ⟨l.toArray⟩) w := by
  obtain ⟨a, c, rfl, -⟩ := h.form
  have h0 := h
  obtain ⟨h1, ⟨h2, h3⟩ | ⟨g, cap, cur, h2, h3, h4, h5, h6, h7, h8⟩⟩ := h
  · have : l = [] := List.eq_nil_of_length_eq_zero h3
    subst this
    simp only [List.length_nil, Value.slice.injEq] at h2
    obtain ⟨rfl, -, rfl⟩ := h2
    exact conv_nil w
  · cases h2
    have := run_convert_bytes_arg (P := Tryz.prog) w 79 5 Tryz.underlying79 Tryz.underlying5 g 0 l.length c (l.map fun x => (x.toNat : Int)) (by simp) (fun i hi => by
      rw [Nat.zero_add, h0.cell hi]
      simp [List.getD_eq_getElem?_getD, hi]) 9 Tryz.underlying9
    rw [this]
    have e : strOfNums (l.map fun x => (x.toNat : Int)) = ⟨l.toArray⟩ := by
      simp [strOfNums, List.map_map, Function.comp_def]
    rw [e]
end Go.Proofs.YtcpjclakdpjjfaaGreatDoor
namespace Go.Proofs.YtcpjclakdpjjfaaGreatDoor
open Go.RowKit Wd
theorem kl111 : WideMaps.KeyLaw Tryz.prog 111 := WideMaps.string_law Tryz.underlying111
theorem kl167 : WideMaps.KeyLaw Tryz.prog 167 := deep_law (m := 2) (by omega) (by kernel_rfl) (by kernel_rfl) (by kernel_rfl)
open Classical in
noncomputable def upd (f : Value → Option Value) (k v : Value) : Value → Option Value := fun x => if x = k then some v else f x
/-- What a map's block holds. -/
def MB (w : World) (kt : TypeId) (b : Nat) (f : Value → Option Value) : Prop :=
  ∃ es clock, w.heap[b]? = some (.map es clock) ∧ (∀ x ∈ es.toList, ∃ l, keyOf Tryz.prog kt x.key = some l) ∧ es.toList.Pairwise (fun x y => x.key ≠ y.key) ∧ ∀ k v, f k = some v ↔ ∃ x ∈ es.toList, x.key = k ∧ x.val = v
theorem MB.turn {w w' : World} {kt : TypeId} {b : Nat} {f : Value → Option Value} (h : MB w kt b f) (e : w'.heap[b]? = w.heap[b]?) : MB w' kt b f := by
  obtain ⟨es, clock, h1, h2⟩ := h
  exact ⟨es, clock, e.trans h1, h2⟩
theorem MB.lt {w : World} {kt : TypeId} {b : Nat} {f : Value → Option Value} (h : MB w kt b f) : b < w.heap.size := by
  obtain ⟨es, clock, h1, h2⟩ := h
  exact lt_of_heap h1
theorem MB.new (w : World) (kt : TypeId) : MB (w.alloc (.map #[] 0)) kt w.heap.size (fun _ => none) :=
  ⟨#[], 0, (MapKept.heap_alloc w _).1, by simp, by simp, by simp⟩
theorem MB.update {w : World} {t kt et : TypeId} {b : Nat} {f : Value → Option Value} (h : MB w kt b f) (ht : Tryz.prog.underlying t = some (.map kt et)) (K : WideMaps.KeyLaw Tryz.prog kt) {key val : Value} {kl : Lit} (hk : keyOf Tryz.prog kt key = some kl) :
    ∃ o, (Instr.mapUpdate t (.map (some b)) key val).run Tryz.prog w = .ok () { w with heap := w.heap.setIfInBounds b o } ∧ MB { w with heap := w.heap.setIfInBounds b o } kt b (upd f key val) := by
  obtain ⟨es, clock, hb, h2, h3, h4⟩ := h
  have hlt := lt_of_heap hb
  rcases K.find w hk es.toList h2 with ⟨h5, h6⟩ | ⟨j, e0, h5, h6, h7⟩
  · refine ⟨.map (es.push ⟨key, val, clock⟩) (clock + 1), ?_, es.push ⟨key, val, clock⟩, clock + 1, by simp [hlt], ?_, ?_, ?_⟩
    · simp [Instr.mapUpdate, run_underlying ht, MapKept.run_getObj_map hb, K.check w false hk, h5, MapKept.run_setObj_map _ hb, Result.andThen]
    · intro x hx
      simp only [Array.toList_push, List.mem_append, List.mem_singleton] at hx
      rcases hx with hx | rfl
      · exact h2 x hx
      · exact ⟨_, hk⟩
    · simp only [Array.toList_push]
      refine List.pairwise_append.2 ⟨h3, by simp, fun x hx y hy => ?_⟩
      simp only [List.mem_singleton] at hy
      subst hy
      exact h6 x hx
    · intro k v
      simp only [Array.toList_push, List.mem_append, List.mem_singleton, upd]
      constructor
      · intro h
        split at h
        · rename_i e
          exact ⟨_, .inr rfl, e.symm, Option.some.inj h⟩
        · obtain ⟨x, hx, e⟩ := (h4 k v).1 h
          exact ⟨x, .inl hx, e⟩
      · rintro ⟨x, hx | rfl, rfl, rfl⟩
        · rw [if_neg (h6 x hx)]
          exact (h4 _ _).2 ⟨x, hx, rfl, rfl⟩
        · rw [if_pos rfl]
  · have hj : es[j]? = some e0 := by simpa using h6
    have hjs : j < es.size := (Array.getElem?_eq_some_iff.1 hj).1
    have hget : ∀ (i : Nat) (x : MapEntry), (es.modify j (fun e' => { e' with key := key, val := val })).toList[i]? = some x → (i = j ∧ x.key = key ∧ x.val = val) ∨ (i ≠ j ∧ es.toList[i]? = some x) := by
      intro i x hx
      by_cases hi : i = j
      · subst hi
        simp [hj] at hx
        subst hx
        exact .inl ⟨rfl, rfl, rfl⟩
      · refine .inr ⟨hi, ?_⟩
        simpa [Array.getElem?_modify, Ne.symm hi] using hx
    have hpw : ∀ (i i' : Nat) (x y : MapEntry), es.toList[i]? = some x → es.toList[i']? = some y → x.key = y.key → i = i' := by
      intro i i' x y hx hy e
      rcases Nat.lt_trichotomy i i' with g | g | g
      · obtain ⟨g1, rfl⟩ := List.getElem?_eq_some_iff.1 hx
        obtain ⟨g2, rfl⟩ := List.getElem?_eq_some_iff.1 hy
        exact absurd e (List.pairwise_iff_getElem.1 h3 i i' g1 g2 g)
      · exact g
      · obtain ⟨g1, rfl⟩ := List.getElem?_eq_some_iff.1 hx
        obtain ⟨g2, rfl⟩ := List.getElem?_eq_some_iff.1 hy
        exact absurd e.symm (List.pairwise_iff_getElem.1 h3 i' i g2 g1 g)
    refine ⟨.map (es.modify j (fun e' => { e' with key := key, val := val })) clock, ?_, es.modify j (fun e' => { e' with key := key, val := val }), clock, by simp [hlt], ?_, ?_, ?_⟩
    · simp [Instr.mapUpdate, run_underlying ht, MapKept.run_getObj_map hb, K.check w false hk, h5, hj, h7, K.stays w hk, MapKept.run_setObj_map _ hb, Result.andThen]
    · intro x hx
      rcases MapFrom.mem_modify hx with hx | ⟨e', _, rfl⟩
      · exact h2 x hx
      · exact ⟨_, hk⟩
    · have hkeys : (es.modify j (fun e' => { e' with key := key, val := val })).toList.map (·.key) = es.toList.map (·.key) :=
        MapKept.modify_keys _ _ (fun e he => by rw [hj] at he; cases he; exact h7.symm)
      have := (List.pairwise_map (f := MapEntry.key) (R := fun a b => a ≠ b)).2 h3
      rw [← hkeys] at this
      exact (List.pairwise_map (f := MapEntry.key) (R := fun a b => a ≠ b)).1 this
    · intro k v
      simp only [upd]
      constructor
      · intro h
        split at h
        · rename_i e
          have hv := Option.some.inj h
          subst e hv
          exact ⟨{ e0 with key := k, val := val }, List.mem_of_getElem? (i := j) (by simp [hj]), rfl, rfl⟩
        · rename_i e
          obtain ⟨x, hx, e1, e2⟩ := (h4 k v).1 h
          obtain ⟨i, hi⟩ := List.mem_iff_getElem?.1 hx
          refine ⟨x, List.mem_of_getElem? (i := i) ?_, e1, e2⟩
          have hij : j ≠ i := fun g => by
            subst g
            rw [h6] at hi
            cases hi
            exact e (e1.symm.trans h7)
          simpa [Array.getElem?_modify, hij] using hi
      · rintro ⟨x, hx, rfl, rfl⟩
        obtain ⟨i, hi⟩ := List.mem_iff_getElem?.1 hx
        rcases hget i x hi with ⟨_, g1, g2⟩ | ⟨g0, g⟩
        · rw [if_pos g1, g2]
        · rw [if_neg (fun q => g0 (hpw i j x e0 g h6 (q.trans h7.symm)))]
          exact (h4 _ _).2 ⟨x, List.mem_of_getElem? g, rfl, rfl⟩
theorem MB.lookup {w : World} {t kt et : TypeId} {b : Nat} {f : Value → Option Value} (h : MB w kt b f) (ht : Tryz.prog.underlying t = some (.map kt et)) (K : WideMaps.KeyLaw Tryz.prog kt) {z : Value} (hz : (zeroValue et).run Tryz.prog w = .ok z w) {key : Value} {kl : Lit} (hk : keyOf Tryz.prog kt key = some kl) :
    (Instr.lookup t (.map (some b)) key true).run Tryz.prog w = .ok (.tuple #[(f key).getD z, .bool (f key).isSome]) w := by
  obtain ⟨es, clock, hb, h2, h3, h4⟩ := h
  rcases K.find w hk es.toList h2 with ⟨h5, h6⟩ | ⟨j, e0, h5, h6, h7⟩
  · have e : f key = none := by
      cases hf : f key with
      | none => rfl
      | some v =>
        obtain ⟨x, hx, e1, _⟩ := (h4 key v).1 hf
        exact absurd e1 (h6 x hx)
    simp [Instr.lookup, run_underlying ht, MapKept.run_getObj_map hb, K.check w _ hk, h5, hz, Result.andThen, e]
  · have e : f key = some e0.val := (h4 _ _).2 ⟨e0, List.mem_of_getElem? h6, h7, rfl⟩
    simp [Instr.lookup, run_underlying ht, MapKept.run_getObj_map hb, K.check w _ hk, h5, Result.andThen, e]
theorem kt167 : Tryz.prog.keyType 167 = true := by kernel_rfl
theorem form167 (a b : Int) : (Value.agg #[.int .i32 a, .int .i32 b]).formed Tryz.prog 167 = true := by kernel_rfl
theorem c21 : Tryz.prog.cellsOf 21 = 1 := by kernel_rfl
theorem c167 : Tryz.prog.cellsOf 167 = 2 := by kernel_rfl
theorem sz0 : (Tryz.prog.types.size == 0) = false := by kernel_rfl
theorem sz : ∃ n, Tryz.prog.types.size = n + 1 := Nat.exists_eq_succ_of_ne_zero (beq_eq_false_iff_ne.1 sz0)
theorem key_pair {a b : Int} (ha : (-2147483648 : Int) ≤ a) (ha2 : a ≤ 2147483647) (hb : (-2147483648 : Int) ≤ b) (hb2 : b ≤ 2147483647) : ∃ l, keyOf Tryz.prog 167 (.agg #[.int .i32 a, .int .i32 b]) = some l := by
  have wa : (Lit.int .i32 a).wf = true := by simp [Lit.wf, show IntKind.i32.min = -2147483648 from by decide, show IntKind.i32.max = 2147483647 from by decide]; omega
  have wb : (Lit.int .i32 b).wf = true := by simp [Lit.wf, show IntKind.i32.min = -2147483648 from by decide, show IntKind.i32.max = 2147483647 from by decide]; omega
  obtain ⟨n, hn⟩ := sz
  unfold keyOf
  simp only [Tryz.underlying167, kt167, form167, hn]
  simp [Program.keyLits, Tryz.underlying167, c21, c167, Tryz.underlying21, Value.cells, wa, wb]
theorem key_text {s : ByteArray} (h : s.size ≤ maxLen) : ∃ l, keyOf Tryz.prog 111 (.string s) = some l := ⟨_, WideMaps.keyOf_string_mk Tryz.underlying111 h⟩
/-- What a map's update leaves. -/
noncomputable def mupw (t : TypeId) (b : Nat) (k v : Value) (w : World) : World := match (Instr.mapUpdate t (.map (some b)) k v).run Tryz.prog w with | .ok _ w' => w' | .halt _ w' => w'
theorem MB.put {w : World} {t kt et : TypeId} {b : Nat} {f : Value → Option Value} (h : MB w kt b f) (ht : Tryz.prog.underlying t = some (.map kt et)) (K : WideMaps.KeyLaw Tryz.prog kt) {key : Value} (val : Value) {kl : Lit} (hk : keyOf Tryz.prog kt key = some kl) :
    (Instr.mapUpdate t (.map (some b)) key val).run Tryz.prog w = .ok () (mupw t b key val w) ∧ MB (mupw t b key val w) kt b (upd f key val) ∧ Mod [b] w (mupw t b key val w) := by
  obtain ⟨o, h1, h2⟩ := h.update ht K (val := val) hk
  have e : mupw t b key val w = { w with heap := w.heap.setIfInBounds b o } := by unfold mupw; rw [h1]
  rw [e]
  refine ⟨h1, h2, rfl, rfl, rfl, by simp, fun k hk hn => ?_⟩
  simp only [List.mem_singleton] at hn
  show (w.heap.setIfInBounds b o)[k]? = w.heap[k]?
  simp [Ne.symm hn]
/-- Bytes that are read only, in a block from `base` on. -/
def Rb (w : World) (base : Nat) (v : Value) (l : List UInt8) : Prop :=
  (l = [] ∧ v = .slice none 0 0) ∨ ∃ b c cur t fr, v = .slice (some ⟨b, 0, none⟩) l.length c ∧ base ≤ b ∧ w.heap[b]? = some (.cells cur t fr) ∧ ∀ i (hi : i < l.length), cur[i]? = some (.int .u8 ((l[i]'hi).toNat : Int))
theorem Rb.mod {w w' : World} {base : Nat} {v : Value} {l : List UInt8} {S : List Nat} (h : Rb w base v l) (m : Mod S w w') (hS : ∀ k, k ∈ S → k < base ∨ ∃ es c, w.heap[k]? = some (.map es c)) : Rb w' base v l := by
  rcases h with h | ⟨b, c, cur, t, fr, rfl, h0, h1, h2⟩
  · exact .inl h
  · refine .inr ⟨b, c, cur, t, fr, rfl, h0, (m.block b (lt_of_heap h1) (fun hk => ?_)).trans h1, h2⟩
    rcases hS b hk with g | ⟨es, c, g⟩
    · omega
    · rw [g] at h1; cases h1
theorem Rb.base {w : World} {b1 b2 : Nat} {v : Value} {l : List UInt8} (h : Rb w b1 v l) (hb : b2 ≤ b1) : Rb w b2 v l := by
  rcases h with h | ⟨b, c, cur, t, fr, h1, h0, h2⟩
  · exact .inl h
  · exact .inr ⟨b, c, cur, t, fr, h1, by omega, h2⟩
theorem Rb.conv {w : World} {base : Nat} {v : Value} {l : List UInt8} (h : Rb w base v l) : (convert 79 9 v).run Tryz.prog w = .ok (.string ⟨l.toArray⟩) w := by
  rcases h with ⟨rfl, rfl⟩ | ⟨g, c, cur, t, fr, rfl, _, h1, h0⟩
  · exact conv_nil w
  · have := run_convert_bytes_arg (P := Tryz.prog) w 79 5 Tryz.underlying79 Tryz.underlying5 g 0 l.length c (l.map fun x => (x.toNat : Int)) (by simp) (fun i hi => by
      rw [Nat.zero_add]
      simp [World.cell?, h1, h0 i hi, List.getD_eq_getElem?_getD, hi]) 9 Tryz.underlying9
    rw [this]
    have e : strOfNums (l.map fun x => (x.toNat : Int)) = ⟨l.toArray⟩ := by
      simp [strOfNums, List.map_map, Function.comp_def]
    rw [e]
theorem Bs.rb {w : World} {base : Nat} {v : Value} {l : List UInt8} (h : Bs w base v l) : Rb w base v l := by
  obtain ⟨a, c, rfl, h1⟩ := h.form
  have h0 := h
  obtain ⟨_, ⟨h2, h3⟩ | ⟨g, cap, cur, h2, h3, h4, _⟩⟩ := h
  · have : l = [] := List.eq_nil_of_length_eq_zero h3
    subst this
    simp only [List.length_nil, Value.slice.injEq] at h2
    obtain ⟨rfl, -, rfl⟩ := h2
    exact .inl ⟨rfl, rfl⟩
  · cases h2
    exact .inr ⟨g, _, cur, _, _, rfl, h3, h4, fun i hi => by
      have := h0.cell hi
      simpa [World.cell?, h4] using this⟩
theorem bytes_conv (src : TypeId) (hs : Tryz.prog.underlying src = some .string) (s : ByteArray) (w : World) : (convert src 79 (.string s)).run Tryz.prog w = .ok (.slice (some ⟨w.heap.size, 0, none⟩) s.size (grownCap w s.size 0 5)) (Lib.bytesWorld w 5 s) := Lib.run_convert_string_bytes w src 79 5 s hs Tryz.underlying79 Tryz.underlying5
theorem bytes_rb (s : ByteArray) (c : Nat) (w : World) : Rb (Lib.bytesWorld w 5 s) w.heap.size (.slice (some ⟨w.heap.size, 0, none⟩) s.size c) s.data.toList :=
  .inr ⟨w.heap.size, c, _, _, _, rfl, Nat.le_refl _, Lib.bytesWorld_at_new w 5 s, fun i hi => by
    have := Lib.bytesWorld_cell w 5 s i hi
    simp only [World.cell?, Lib.bytesWorld_at_new, List.getD_eq_getElem?_getD, List.getElem?_eq_getElem hi] at this
    exact this⟩
theorem bytes_mod (s : ByteArray) (w : World) : Mod [] w (Lib.bytesWorld w 5 s) := ⟨rfl, rfl, rfl, by rw [Lib.bytesWorld_size]; omega, fun k hk _ => Lib.bytesWorld_at_old w 5 s k hk⟩
theorem MB.mod {S : List Nat} {w w' : World} {kt : TypeId} {b : Nat} {f : Value → Option Value} (h : MB w kt b f) (m : Mod S w w') (hb : b ∉ S) : MB w' kt b f := h.turn (m.block b h.lt hb)
theorem MB.isMap {w : World} {kt : TypeId} {b : Nat} {f : Value → Option Value} (h : MB w kt b f) : ∃ es c, w.heap[b]? = some (.map es c) := by
  obtain ⟨es, clock, h1, h2⟩ := h
  exact ⟨es, clock, h1⟩
end Go.Proofs.YtcpjclakdpjjfaaGreatDoor
