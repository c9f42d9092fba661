/- What is added to a quantity and taken away again leaves what was there: the walk (laws: FnQuantityBack). -/
import Derived.Test.YtcpjclakdpjjfaaGreatDoorC43
import Derived.Test.YtcpjclakdpjjfaaGreatDoorC46
import Derived.Test.YtcpjclakdpjjfaaGreatDoorC47
import Derived.Deep.RegionHeld3
import Derived.Deep.RegionLaw
import Derived.Test.YtcpjclakdpjjfaaGreatDoorC35
import Derived.Test.YtcpjclakdpjjfaaGreatDoorC28
import Derived.Test.YtcpjclakdpjjfaaGreatDoorC45
namespace Go.Proofs.YtcpjclakdpjjfaaGreatDoor
open Go.RowKit Wd Dg
/-- A quantity laid behind, its cells in sight, its blocks new. -/
theorem PqRet.fresh {w w1 : World} {v s V : Int} {q : Option Addr} {st fb : ByteArray} {bl : List Nat} (ok : QOk w1 v s (.pointer q) V bl) (hn : ∀ k, k ∈ bl → w.heap.size ≤ k) (m : Mod [] w w1) (he : Env2 w) :
    (Qy (w1.alloc (.cells (qc v s (.pointer q) (.string st) (.string fb)) 70)) w1.heap.size V (.string fb) bl ∧ Hd (w1.alloc (.cells (qc v s (.pointer q) (.string st) (.string fb)) 70)) w1.heap.size 70 (qc v s (.pointer q) (.string st) (.string fb)) ∧ QOk (w1.alloc (.cells (qc v s (.pointer q) (.string st) (.string fb)) 70)) v s (.pointer q) V bl) ∧
    Env2 (w1.alloc (.cells (qc v s (.pointer q) (.string st) (.string fb)) 70)) ∧ Mod [] w (w1.alloc (.cells (qc v s (.pointer q) (.string st) (.string fb)) 70)) ∧ ∀ k, k ∈ w1.heap.size :: bl → w.heap.size ≤ k := by
  have ma : Mod [] w1 (w1.alloc (.cells (qc v s (.pointer q) (.string st) (.string fb)) 70)) := (Mod.refl [] w1).alloc _
  have he1 := he.mod m (by simp)
  have hd := Hd.new w1 70 (qc v s (.pointer q) (.string st) (.string fb))
  refine ⟨⟨⟨⟨v, s, .pointer q, .string st, hd, ok.mod ma (by simp)⟩, he1.env.big⟩, hd, ok.mod ma (by simp)⟩, he1.mod ma (by simp), m.trans ma, fun k hk => ?_⟩
  rcases List.mem_cons.1 hk with rfl | hk
  · exact m.size
  · exact hn k hk
/-- What is turned in place is turned behind. -/
theorem QtR.behind {w W w' : World} {bq : Nat} {bl : List Nat} {V : Int} {f : Value} (h : QtR W bq bl V f w') (hn : ∀ k, k ∈ bq :: bl → w.heap.size ≤ k) (m : Mod [] w W) (he : Env2 W) (hlo : 19 ≤ w.heap.size) : ∃ bl', Qy w' bq V f bl' ∧ Env2 w' ∧ Mod [] w w' := by
  obtain ⟨bl', h1, h2, -⟩ := h
  exact ⟨bl', h1, he.mod h2 (fun k hk => Nat.le_trans hlo (hn k hk)), m.step h2 (fun k hk => .inr (hn k hk))⟩
set_option maxHeartbeats 3200000 in
theorem qsign_calls (s : ByteArray) (fn : Nat) (V : Int) (w : World) (he : Env2 w) (h : WordT s fn V) : Calls Tryz.prog 21 #[.string s] w fun e w' => e = .returned (.tuple #[.int .i64 (sgnI V), .bool (decide (V = 0)), .int .i64 0]) ∧ Mod [] w w' := by
  have P := Lib.hid (parse_calls s fn V w he h)
  have HH := Lib.hid he
  clear he h
  go_enter Tryz.func21, Tryz.ntmps21
  go_wp2_with fail
  refine P.out.mono ?_
  rintro e w1 ⟨v, sc, q, st, fb, bl, rfl, hf, ok, hn, hm, m⟩
  have L := Lib.hid (PqRet.fresh (st := st) (fb := fb) ok hn m HH.out)
  clear hf ok hn hm m P
  unfold qv
  go_upto_region 4 with fail
  obtain ⟨⟨hq, -, -⟩, hee, hm, -⟩ := L.out
  unfold qc at hq hee hm
  generalize w1.alloc (.cells #[.int .i64 v, .int .i32 sc, .pointer q, .string st, .string fb] 70) = W at *
  generalize w1.heap.size = bq at *
  have S := Lib.hid (q_sign bq V _ bl W hq)
  have Z := Lib.hid (fun w' (m : Mod [] W w') => q_isZero bq V _ bl w' (hq.mod m (by simp) (by simp)))
  have HM := Lib.hid hm
  clear hq hee hm L
  go_wp2_with fail
  refine S.out.mono ?_
  rintro e w2 ⟨rfl, m2⟩
  have Z' := Lib.hid (Z.out w2 m2)
  have M2 := Lib.hid (HM.out.trans m2)
  clear m2 S Z
  go_wp2_with fail
  refine Z'.out.mono ?_
  rintro e w3 ⟨rfl, rfl⟩
  obtain ⟨z, hz⟩ : ∃ z, decide (V = 0) = z := ⟨_, rfl⟩
  rw [hz]
  have HZ := Lib.hid hz
  clear hz
  go_wp2_with fail
  go_ret3
  exact ⟨by rw [← HZ.out]; rfl, M2.out⟩
set_option maxHeartbeats 3200000 in
theorem qneg_calls (s : ByteArray) (fn : Nat) (V : Int) (w : World) (he : Env2 w) (h : WordT s fn V) (hc : CanOk fn (-V)) : Calls Tryz.prog 27 #[.string s] w fun e w' => ∃ t : List UInt8, e = .returned (.tuple #[.string ⟨t.toArray⟩, .int .i64 0]) ∧ CanTxt fn (-V) t ∧ Mod [] w w' := by
  have P := Lib.hid (parse_calls s fn V w he h)
  have HH := Lib.hid (And.intro he (And.intro h.ok hc))
  clear he h hc
  go_enter Tryz.func27, Tryz.ntmps27
  go_wp2_with fail
  refine P.out.mono ?_
  rintro e w1 ⟨v, sc, q, st, fb, bl, rfl, hf, ok, hn, hm, m⟩
  have L := Lib.hid (PqRet.fresh (st := st) (fb := fb) ok hn m HH.out.1)
  have HF := Lib.hid (And.intro hf hm)
  clear hf ok hn hm m P
  unfold qv
  go_upto_region 4 with fail
  obtain ⟨⟨hq, hd, hqo⟩, hee, hm, hfr⟩ := L.out
  unfold qc at hq hd hee hm hqo
  generalize w1.alloc (.cells #[.int .i64 v, .int .i32 sc, .pointer q, .string st, .string fb] 70) = W at *
  generalize w1.heap.size = bq at *
  have C := Lib.hid (q_neg bq v sc _ _ _ V bl W hd hqo hq.lo HF.out.2)
  have HM := Lib.hid (And.intro hm (And.intro hfr hee))
  clear hq hd hqo hee hm hfr L
  go_wp2_with fail
  refine C.out.mono ?_
  rintro e w2 ⟨rfl, hqt⟩
  have R := Lib.hid (hqt.behind HM.out.2.1 HM.out.1 HM.out.2.2 HH.out.1.env.big)
  obtain ⟨bl', k1, k2, k3⟩ := R.out
  have CC := Lib.hid (canonical_calls fb fn HF.out.1 bq _ bl' w2 k2 k1 (can_may HH.out.2.2))
  have K3 := Lib.hid k3
  clear hqt k1 k2 k3 R C
  go_wp2_with fail
  refine CC.out.mono ?_
  rintro e w3 ⟨t, rfl, ht, m3⟩
  have HT := Lib.hid ht
  have M3 := Lib.hid (K3.out.trans m3)
  clear ht m3 CC
  go_wp2_with fail
  go_ret2
  exact ⟨t, rfl, HT.out, M3.out⟩
set_option maxHeartbeats 3200000 in
theorem qmul_calls (s : ByteArray) (fn : Nat) (V y : Int) (w : World) (he : Env2 w) (h : WordT s fn V) (hy : i64 y) (hc : CanOk fn (V * y)) : Calls Tryz.prog 25 #[.string s, .int .i64 y] w fun e w' => ∃ t : List UInt8, (∃ ok : Bool, e = .returned (.tuple #[.string ⟨t.toArray⟩, .bool ok, .int .i64 0])) ∧ CanTxt fn (V * y) t ∧ Mod [] w w' := by
  have P := Lib.hid (parse_calls s fn V w he h)
  have HH := Lib.hid (And.intro he (And.intro h.ok hc))
  have HY := Lib.hid hy
  clear hy
  clear he h hc
  go_enter Tryz.func25, Tryz.ntmps25
  go_wp2_with fail
  refine P.out.mono ?_
  rintro e w1 ⟨v, sc, q, st, fb, bl, rfl, hf, ok, hn, hm, m⟩
  have L := Lib.hid (PqRet.fresh (st := st) (fb := fb) ok hn m HH.out.1)
  have HF := Lib.hid (And.intro hf hm)
  clear hf ok hn hm m P
  unfold qv
  go_upto_region 4 with fail
  obtain ⟨⟨hq, hd, hqo⟩, hee, hm, hfr⟩ := L.out
  unfold qc at hq hd hee hm hqo
  generalize w1.alloc (.cells #[.int .i64 v, .int .i32 sc, .pointer q, .string st, .string fb] 70) = W at *
  generalize w1.heap.size = bq at *
  have C := Lib.hid (q_mul bq V y _ bl W hee hq HY.out (can_vb HH.out.2.2))
  have HM := Lib.hid (And.intro hm (And.intro hfr hee))
  clear hq hd hqo hee hm hfr L
  go_wp2_with fail
  refine C.out.mono ?_
  rintro e w2 ⟨⟨ok, rfl⟩, hqt⟩
  have R := Lib.hid (hqt.behind HM.out.2.1 HM.out.1 HM.out.2.2 HH.out.1.env.big)
  obtain ⟨bl', k1, k2, k3⟩ := R.out
  have CC := Lib.hid (canonical_calls fb fn HF.out.1 bq _ bl' w2 k2 k1 (can_may HH.out.2.2))
  have K3 := Lib.hid k3
  clear hqt k1 k2 k3 R C
  go_wp2_with fail
  refine CC.out.mono ?_
  rintro e w3 ⟨t, rfl, ht, m3⟩
  have HT := Lib.hid ht
  have M3 := Lib.hid (K3.out.trans m3)
  clear ht m3 CC
  go_wp2_with fail
  go_ret3
  exact ⟨t, ⟨ok, rfl⟩, HT.out, M3.out⟩
set_option maxHeartbeats 3200000 in
theorem qround_calls (s : ByteArray) (fn : Nat) (V c : Int) (w : World) (he : Env2 w) (h : WordT s fn V) (h1 : -9 ≤ c) (h2 : c ≤ 18) (hc : CanOk fn (rup10 V c)) : Calls Tryz.prog 19 #[.string s, .int .i64 c] w fun e w' => ∃ t : List UInt8, e = .returned (.tuple #[.string ⟨t.toArray⟩, .bool (decide (rup10 V c = V)), .int .i64 0]) ∧ CanTxt fn (rup10 V c) t ∧ Mod [] w w' := by
  have P := Lib.hid (parse_calls s fn V w he h)
  have HH := Lib.hid (And.intro he (And.intro h.ok hc))
  have HY := Lib.hid (And.intro h1 h2)
  clear he h hc
  go_enter Tryz.func19, Tryz.ntmps19
  go_wp2_with fail
  refine P.out.mono ?_
  rintro e w1 ⟨v, sc, q, st, fb, bl, rfl, hf, ok, hn, hm, m⟩
  have L := Lib.hid (PqRet.fresh (st := st) (fb := fb) ok hn m HH.out.1)
  have HF := Lib.hid (And.intro hf hm)
  clear hf ok hn hm m P
  unfold qv
  go_upto_region 4 with fail
  obtain ⟨⟨hq, hd, hqo⟩, hee, hm, hfr⟩ := L.out
  unfold qc at hq hd hee hm hqo
  generalize w1.alloc (.cells #[.int .i64 v, .int .i32 sc, .pointer q, .string st, .string fb] 70) = W at *
  generalize w1.heap.size = bq at *
  have C := Lib.hid (q_roundUp bq V c _ bl W hee hq (can_vb HH.out.2.1) HY.out.1 HY.out.2)
  have HM := Lib.hid (And.intro hm (And.intro hfr hee))
  clear hq hd hqo hee hm hfr L
  go_wp2_with fail
  refine C.out.mono ?_
  rintro e w2 ⟨rfl, hqt⟩
  have R := Lib.hid (hqt.behind HM.out.2.1 HM.out.1 HM.out.2.2 HH.out.1.env.big)
  obtain ⟨bl', k1, k2, k3⟩ := R.out
  have CC := Lib.hid (canonical_calls fb fn HF.out.1 bq _ bl' w2 k2 k1 (can_may HH.out.2.2))
  have K3 := Lib.hid k3
  clear hqt k1 k2 k3 R C
  go_wp2_with fail
  refine CC.out.mono ?_
  rintro e w3 ⟨t, rfl, ht, m3⟩
  have HT := Lib.hid ht
  have M3 := Lib.hid (K3.out.trans m3)
  clear ht m3 CC
  go_wp2_with fail
  go_ret3
  exact ⟨t, rfl, HT.out, M3.out⟩
end Go.Proofs.YtcpjclakdpjjfaaGreatDoor
namespace Go.Proofs.YtcpjclakdpjjfaaGreatDoor
open Go.RowKit Wd Dg
theorem set_same {cs : Array Value} {i : Nat} {v : Value} (hv : cs[i]? = some v) : cs.setIfInBounds i v = cs := by
  apply Array.ext_getElem?
  intro j
  rw [Array.getElem?_setIfInBounds]
  split
  · next h => subst h; rw [hv]; rw [if_pos (by rw [Array.getElem?_eq_some_iff] at hv; exact hv.1)]
  · rfl
theorem Hd.same {w : World} {b : Nat} {t : TypeId} {cs : Array Value} (h : Hd w b t cs) {i : Nat} {v : Value} (hv : cs[i]? = some v) : w.setCell ⟨b, i, none⟩ v = w := by
  have e : (w.setCell ⟨b, i, none⟩ v).heap = w.heap := by
    apply Array.ext_getElem?
    intro j
    by_cases hj : j = b
    · subst hj
      have := h.set i v
      unfold Hd at this h
      rw [this, set_same hv, h]
    · exact Below.heap_setCell _ _ _ _ hj
  have : ∀ W : World, W.heap = w.heap → W.tape = w.tape → W.drawn = w.drawn → W.os = w.os → W.output = w.output → W = w := by
    intro W h1 h2 h3 h4 h5
    cases W; cases w
    simp only at h1 h2 h3 h4 h5
    simp [h1, h2, h3, h4, h5]
  exact this _ e rfl rfl rfl rfl
theorem results45 (tmps : Array Value) (w : World) (a b : Nat) (v0 v1 v2 v3 v4 u0 u1 u2 u3 u4 : Value) (h : Hd w a 70 #[v0, v1, v2, v3, v4]) (k : Hd w b 70 #[u0, u1, u2, u3, u4]) (h4 : tmps.getD 4 undef = .pointer (some ⟨a, 0, none⟩)) (h5 : tmps.getD 5 undef = .pointer (some ⟨b, 0, none⟩)) :
    (results Tryz.f45 tmps).run Tryz.prog w = .ok (.tuple #[.agg #[v0, v1, v2, v3, v4], .agg #[u0, u1, u2, u3, u4], tmps.getD 6 undef]) w := by
  have q0 := h.cell (i := 0) rfl
  have q1 := h.cell (i := 1) rfl
  have q2 := h.cell (i := 2) rfl
  have q3 := h.cell (i := 3) rfl
  have q4 := h.cell (i := 4) rfl
  have p0 := k.cell (i := 0) rfl
  have p1 := k.cell (i := 1) rfl
  have p2 := k.cell (i := 2) rfl
  have p3 := k.cell (i := 3) rfl
  have p4 := k.cell (i := 4) rfl
  rw [Array.getD_eq_getD_getElem?] at h4 h5
  simp [results, go_sem, h4, h5, q0, q1, q2, q3, q4, p0, p1, p2, p3, p4]
/-- Two quantities handed back. -/
def TwRet (fn gn : Nat) (V U : Int) (w : World) (e : Ending) (w' : World) : Prop :=
  ∃ v s q st fb bl v' s' q' st' fb' bl', e = .returned (.tuple #[qv v s (.pointer q) (.string st) (.string fb), qv v' s' (.pointer q') (.string st') (.string fb'), .int .i64 0]) ∧ Fmt fb fn ∧ Fmt fb' gn ∧
    QOk w' v s (.pointer q) V bl ∧ QOk w' v' s' (.pointer q') U bl' ∧ (∀ k, k ∈ bl → w.heap.size ≤ k) ∧ (∀ k, k ∈ bl' → w.heap.size ≤ k) ∧ (∀ k, k ∈ bl → k ∉ bl') ∧ v ≠ -9223372036854775808 ∧ v' ≠ -9223372036854775808 ∧ Mod [] w w'
/-- Two results, none stored yet. -/
structure TwS (w W0 : World) (ba bb : Nat) : Prop where
  ha : Hd W0 ba 70 #[.int .i64 0, .int .i32 0, .pointer none, .string ⟨#[]⟩, .string ⟨#[]⟩]
  hb : Hd W0 bb 70 #[.int .i64 0, .int .i32 0, .pointer none, .string ⟨#[]⟩, .string ⟨#[]⟩]
  m : Mod [] w W0
  ne : ba < bb
  lo : w.heap.size ≤ ba
  e : Env2 W0
  big : 19 ≤ w.heap.size
theorem TwS.start {w : World} (he : Env2 w) : TwS w ((w.alloc (.cells #[.int .i64 0, .int .i32 0, .pointer none, .string ⟨#[]⟩, .string ⟨#[]⟩] 70)).alloc (.cells #[.int .i64 0, .int .i32 0, .pointer none, .string ⟨#[]⟩, .string ⟨#[]⟩] 70)) w.heap.size (w.heap.size + 1) := by
  have ha := Hd.new w 70 #[.int .i64 0, .int .i32 0, .pointer none, .string ⟨#[]⟩, .string ⟨#[]⟩]
  have hs0 : (w.alloc (.cells #[.int .i64 0, .int .i32 0, .pointer none, .string ⟨#[]⟩, .string ⟨#[]⟩] 70)).heap.size = w.heap.size + 1 := by simp
  have hb := Hd.new (w.alloc (.cells #[.int .i64 0, .int .i32 0, .pointer none, .string ⟨#[]⟩, .string ⟨#[]⟩] 70)) 70 #[.int .i64 0, .int .i32 0, .pointer none, .string ⟨#[]⟩, .string ⟨#[]⟩]
  rw [hs0] at hb
  have m1 : Mod [] w (w.alloc (.cells #[.int .i64 0, .int .i32 0, .pointer none, .string ⟨#[]⟩, .string ⟨#[]⟩] 70)) := (Mod.refl [] w).alloc _
  have m2 : Mod [] (w.alloc (.cells #[.int .i64 0, .int .i32 0, .pointer none, .string ⟨#[]⟩, .string ⟨#[]⟩] 70)) ((w.alloc (.cells #[.int .i64 0, .int .i32 0, .pointer none, .string ⟨#[]⟩, .string ⟨#[]⟩] 70)).alloc (.cells #[.int .i64 0, .int .i32 0, .pointer none, .string ⟨#[]⟩, .string ⟨#[]⟩] 70)) := (Mod.refl [] _).alloc _
  exact ⟨ha.mod m2 (by simp), hb, m1.trans m2, by omega, Nat.le_refl _, he.mod (m1.trans m2) (by simp), he.env.big⟩
/-- The first one stored. -/
structure TwA (w W1 : World) (ba bb : Nat) (v s V : Int) (q : Option Addr) (st fb : ByteArray) (bl : List Nat) : Prop where
  ha : Hd W1 ba 70 #[.int .i64 v, .int .i32 s, .pointer q, .string st, .string fb]
  hb : Hd W1 bb 70 #[.int .i64 0, .int .i32 0, .pointer none, .string ⟨#[]⟩, .string ⟨#[]⟩]
  m : Mod [] w W1
  ok : QOk W1 v s (.pointer q) V bl
  bl : ∀ k, k ∈ bl → w.heap.size ≤ k ∧ k < W1.heap.size ∧ k ≠ bb ∧ k ≠ ba
  lt : bb < W1.heap.size
  ne : ba < bb
  lo : w.heap.size ≤ ba
  e : Env2 W1
  big : 19 ≤ w.heap.size
theorem TwS.one {w W0 w1 : World} {ba bb : Nat} {v s V : Int} {q : Option Addr} {st fb : ByteArray} {bl : List Nat} (h : TwS w W0 ba bb) (ok : QOk w1 v s (.pointer q) V bl) (hn : ∀ k, k ∈ bl → W0.heap.size ≤ k) (m : Mod [] W0 w1) :
    ∃ W1, ((((w1.setCell ⟨ba, 0, none⟩ (.int .i64 v)).setCell ⟨ba, 1, none⟩ (.int .i32 s)).setCell ⟨ba, 2, none⟩ (.pointer q)).setCell ⟨ba, 3, none⟩ (.string st)).setCell ⟨ba, 4, none⟩ (.string fb) = W1 ∧ TwA w W1 ba bb v s V q st fb bl := by
  have ha1 := h.ha.mod m (by simp)
  obtain ⟨W1, hW1, hd1, md⟩ := put5 (a0 := 0) (a1 := 0) (a2 := .pointer none) (a3 := .string ⟨#[]⟩) (a4 := .string ⟨#[]⟩) ha1 (.int .i64 v) (.int .i32 s) (.pointer q) (.string st) (.string fb)
  have hlo := h.lo
  have hne := h.ne
  have hbg := h.big
  have l1 := h.ha.lt
  have l2 := h.hb.lt
  refine ⟨W1, hW1, hd1, (h.hb.mod m (by simp)).mod md (by simp; omega), (h.m.trans m).step md (fun x hx => .inr (by rw [List.mem_singleton.1 hx]; exact hlo)), ok.mod md (fun k hk hm => ?_), fun k hk => ⟨?_, ?_, ?_, ?_⟩, ?_, hne, hlo, (h.e.mod m (by simp)).mod md (fun k hk => by rw [List.mem_singleton.1 hk]; omega), hbg⟩
  · have := hn k hk
    rw [List.mem_singleton.1 hm] at this
    omega
  · have := hn k hk
    have := h.m.size
    omega
  · have := (ok.lt k hk).2
    have := md.size
    omega
  · have := hn k hk
    omega
  · have := hn k hk
    omega
  · have := m.size
    have := md.size
    omega
theorem TwA.two {w W1 w2 : World} {ba bb fn gn : Nat} {v s V v' s' U : Int} {q q' : Option Addr} {st fb st' fb' : ByteArray} {bl bl' : List Nat} (h : TwA w W1 ba bb v s V q st fb bl) (hf : Fmt fb fn) (hv : v ≠ -9223372036854775808)
    (ok : QOk w2 v' s' (.pointer q') U bl') (hf' : Fmt fb' gn) (hn : ∀ k, k ∈ bl' → W1.heap.size ≤ k) (hv' : v' ≠ -9223372036854775808) (m : Mod [] W1 w2) :
    ∃ W2, ((((w2.setCell ⟨bb, 0, none⟩ (.int .i64 v')).setCell ⟨bb, 1, none⟩ (.int .i32 s')).setCell ⟨bb, 2, none⟩ (.pointer q')).setCell ⟨bb, 3, none⟩ (.string st')).setCell ⟨bb, 4, none⟩ (.string fb') = W2 ∧
      Hd W2 ba 70 #[.int .i64 v, .int .i32 s, .pointer q, .string st, .string fb] ∧ Hd W2 bb 70 #[.int .i64 v', .int .i32 s', .pointer q', .string st', .string fb'] ∧ Mod [] w W2 ∧
      ∀ w3, Mod [ba, bb] W2 w3 → TwRet fn gn V U w (.returned (.tuple #[qv v s (.pointer q) (.string st) (.string fb), qv v' s' (.pointer q') (.string st') (.string fb'), .int .i64 0])) w3 := by
  have hb1 := h.hb.mod m (by simp)
  obtain ⟨W2, hW2, hd2, md⟩ := put5 (a0 := 0) (a1 := 0) (a2 := .pointer none) (a3 := .string ⟨#[]⟩) (a4 := .string ⟨#[]⟩) hb1 (.int .i64 v') (.int .i32 s') (.pointer q') (.string st') (.string fb')
  have hlo := h.lo
  have hne := h.ne
  have l2 := h.hb.lt
  have mm : Mod [] w W2 := (h.m.trans m).step md (fun x hx => .inr (by rw [List.mem_singleton.1 hx]; omega))
  have k1 : QOk W2 v s (.pointer q) V bl := (h.ok.mod m (by simp)).mod md (fun k hk hm => (h.bl k hk).2.2.1 (List.mem_singleton.1 hm))
  have k2 : QOk W2 v' s' (.pointer q') U bl' := ok.mod md (fun k hk hm => by
    have := hn k hk
    rw [List.mem_singleton.1 hm] at this
    omega)
  have hlt := h.lt
  refine ⟨W2, hW2, (h.ha.mod m (by simp)).mod md (by simp; omega), hd2, mm, fun w3 m3 => ⟨v, s, q, st, fb, bl, v', s', q', st', fb', bl', rfl, hf, hf', k1.mod m3 (fun k hk hm => ?_), k2.mod m3 (fun k hk hm => ?_), fun k hk => (h.bl k hk).1, fun k hk => ?_, fun k hk hk2 => ?_, hv, hv', mm.step m3 (fun x hx => ?_)⟩⟩
  · have := (h.bl k hk).2.2
    simp only [List.mem_cons, List.not_mem_nil, or_false] at hm
    omega
  · have := hn k hk
    simp only [List.mem_cons, List.not_mem_nil, or_false] at hm
    omega
  · have := hn k hk
    have := h.m.size
    omega
  · have := hn k hk2
    have := (h.bl k hk).2.1
    omega
  · simp only [List.mem_cons, List.not_mem_nil, or_false] at hx
    omega
set_option maxRecDepth 20000 in
set_option maxHeartbeats 6400000 in
theorem two_calls (s t : ByteArray) (fn gn : Nat) (V U : Int) (w : World) (he : Env2 w) (h : WordT s fn V) (k : WordT t gn U) : Calls Tryz.prog 45 #[.string s, .string t] w (TwRet fn gn V U w) := by
  have P := Lib.hid (fun w' (he' : Env2 w') => parse_calls s fn V w' he' h)
  have P2 := Lib.hid (fun w' (he' : Env2 w') => parse_calls t gn U w' he' k)
  have H0 := Lib.hid (TwS.start he)
  clear he h k
  go_enter Tryz.func45, Tryz.ntmps45
  go_upto_region 1 with fail
  have h0 := H0.out
  obtain ⟨ba, hba⟩ : ∃ ba, w.heap.size = ba := ⟨_, rfl⟩
  obtain ⟨bb, hbb⟩ : ∃ bb, w.heap.size + 1 = bb := ⟨_, rfl⟩
  rw [hbb, hba] at h0
  generalize (w.alloc (.cells #[.int .i64 0, .int .i32 0, .pointer none, .string ⟨#[]⟩, .string ⟨#[]⟩] 70)).alloc (.cells #[.int .i64 0, .int .i32 0, .pointer none, .string ⟨#[]⟩, .string ⟨#[]⟩] 70) = W0 at *
  try rw [hbb]
  try rw [hba]
  have H1 := Lib.hid h0
  have P' := Lib.hid (P.out W0 h0.e)
  clear h0 H0 hba hbb P
  go_wp2_with fail
  refine P'.out.mono ?_
  rintro e w1 ⟨v, sc, q, st, fb, bl, rfl, hf, ok, hn, hm, m⟩
  obtain ⟨W1, hW1, k1⟩ := H1.out.one (st := st) (fb := fb) ok hn m
  have HA := Lib.hid k1
  have HF := Lib.hid (And.intro hf hm)
  have hda := H1.out.ha.mod m (by simp)
  have f0 := hda.free
  have c0 := hda.cell (i := 0) rfl
  have c1 := hda.cell (i := 1) rfl
  have c2 := hda.cell (i := 2) rfl
  have c3 := hda.cell (i := 3) rfl
  have c4 := hda.cell (i := 4) rfl
  have HW := Lib.hid hW1
  clear hf ok hn hm m k1 P' H1 hW1 hda
  unfold qv
  go_upto_region 4 with fail
  rw [HW.out]
  have P2' := Lib.hid (P2.out W1 HA.out.e)
  clear HW f0 P2 c0 c1 c2 c3 c4
  go_wp2_with fail
  refine P2'.out.mono ?_
  rintro e w2 ⟨v', s', q', st', fb', bl', rfl, hf', ok', hn', hm', m'⟩
  obtain ⟨W2, hW2, hda, hdb, -, hT⟩ := HA.out.two (fn := fn) (gn := gn) (U := U) (st' := st') HF.out.1 HF.out.2 ok' hf' hn' hm' m'
  have hdz := HA.out.hb.mod m' (by simp)
  have g0 := hdz.free
  have z0 := hdz.cell (i := 0) rfl
  have z1 := hdz.cell (i := 1) rfl
  have z2 := hdz.cell (i := 2) rfl
  have z3 := hdz.cell (i := 3) rfl
  have z4 := hdz.cell (i := 4) rfl
  have HW2 := Lib.hid (And.intro hW2 (And.intro hda (And.intro hdb hT)))
  have HNE := Lib.hid HA.out.ne
  clear hf' ok' hn' hm' m' hW2 hda hdb hT P2' HA HF hdz
  unfold qv
  go_upto_region 5 with fail
  rw [HW2.out.1]
  obtain ⟨-, hda, hdb, hT⟩ := HW2.out
  have HX := Lib.hid (fun (w' : World) (m : Mod [] W2 w') => And.intro (Hd.mod hda m (by simp)) (Hd.mod hdb m (by simp)))
  have HT := Lib.hid hT
  have a0 : W2.cell? ⟨ba, 0, none⟩ = some (.int .i64 v) := hda.cell (i := 0) rfl
  have a1 : W2.cell? ⟨ba, 1, none⟩ = some (.int .i32 sc) := hda.cell (i := 1) rfl
  have a2 : W2.cell? ⟨ba, 2, none⟩ = some (.pointer q) := hda.cell (i := 2) rfl
  have a3 : W2.cell? ⟨ba, 3, none⟩ = some (.string st) := hda.cell (i := 3) rfl
  have a4 : W2.cell? ⟨ba, 4, none⟩ = some (.string fb) := hda.cell (i := 4) rfl
  have b0 : W2.cell? ⟨bb, 0, none⟩ = some (.int .i64 v') := hdb.cell (i := 0) rfl
  have b1 : W2.cell? ⟨bb, 1, none⟩ = some (.int .i32 s') := hdb.cell (i := 1) rfl
  have b2 : W2.cell? ⟨bb, 2, none⟩ = some (.pointer q') := hdb.cell (i := 2) rfl
  have b3 : W2.cell? ⟨bb, 3, none⟩ = some (.string st') := hdb.cell (i := 3) rfl
  have b4 : W2.cell? ⟨bb, 4, none⟩ = some (.string fb') := hdb.cell (i := 4) rfl
  have fa := hda.free
  have fb1 := hdb.free
  have hdaD := hda.mod ((Mod.refl [] W2).drew) (by simp)
  have hdbD := hdb.mod ((Mod.refl [] W2).drew) (by simp)
  have sa0 : W2.setCell ⟨ba, 0, none⟩ (.int .i64 v) = W2 := hda.same (i := 0) rfl
  have sb0 : W2.setCell ⟨bb, 0, none⟩ (.int .i64 v') = W2 := hdb.same (i := 0) rfl
  have ta0 : W2.drew.setCell ⟨ba, 0, none⟩ (.int .i64 v) = W2.drew := hdaD.same (i := 0) rfl
  have tb0 : W2.drew.setCell ⟨bb, 0, none⟩ (.int .i64 v') = W2.drew := hdbD.same (i := 0) rfl
  have sa1 : W2.setCell ⟨ba, 1, none⟩ (.int .i32 sc) = W2 := hda.same (i := 1) rfl
  have sb1 : W2.setCell ⟨bb, 1, none⟩ (.int .i32 s') = W2 := hdb.same (i := 1) rfl
  have ta1 : W2.drew.setCell ⟨ba, 1, none⟩ (.int .i32 sc) = W2.drew := hdaD.same (i := 1) rfl
  have tb1 : W2.drew.setCell ⟨bb, 1, none⟩ (.int .i32 s') = W2.drew := hdbD.same (i := 1) rfl
  have sa2 : W2.setCell ⟨ba, 2, none⟩ (.pointer q) = W2 := hda.same (i := 2) rfl
  have sb2 : W2.setCell ⟨bb, 2, none⟩ (.pointer q') = W2 := hdb.same (i := 2) rfl
  have ta2 : W2.drew.setCell ⟨ba, 2, none⟩ (.pointer q) = W2.drew := hdaD.same (i := 2) rfl
  have tb2 : W2.drew.setCell ⟨bb, 2, none⟩ (.pointer q') = W2.drew := hdbD.same (i := 2) rfl
  have sa3 : W2.setCell ⟨ba, 3, none⟩ (.string st) = W2 := hda.same (i := 3) rfl
  have sb3 : W2.setCell ⟨bb, 3, none⟩ (.string st') = W2 := hdb.same (i := 3) rfl
  have ta3 : W2.drew.setCell ⟨ba, 3, none⟩ (.string st) = W2.drew := hdaD.same (i := 3) rfl
  have tb3 : W2.drew.setCell ⟨bb, 3, none⟩ (.string st') = W2.drew := hdbD.same (i := 3) rfl
  have sa4 : W2.setCell ⟨ba, 4, none⟩ (.string fb) = W2 := hda.same (i := 4) rfl
  have sb4 : W2.setCell ⟨bb, 4, none⟩ (.string fb') = W2 := hdb.same (i := 4) rfl
  have ta4 : W2.drew.setCell ⟨ba, 4, none⟩ (.string fb) = W2.drew := hdaD.same (i := 4) rfl
  have tb4 : W2.drew.setCell ⟨bb, 4, none⟩ (.string fb') = W2.drew := hdbD.same (i := 4) rfl
  clear hT g0 HW2 hda hdb hdaD hdbD z0 z1 z2 z3 z4
  go_region_held3 (fun w' => (w'.cell? ⟨ba, 0, none⟩ = some (.int .i64 v) ∧ w'.cell? ⟨ba, 1, none⟩ = some (.int .i32 sc) ∧ w'.cell? ⟨ba, 2, none⟩ = some (.pointer q) ∧ w'.cell? ⟨ba, 3, none⟩ = some (.string st) ∧ w'.cell? ⟨ba, 4, none⟩ = some (.string fb)) ∧ (w'.cell? ⟨bb, 0, none⟩ = some (.int .i64 v') ∧ w'.cell? ⟨bb, 1, none⟩ = some (.int .i32 s') ∧ w'.cell? ⟨bb, 2, none⟩ = some (.pointer q') ∧ w'.cell? ⟨bb, 3, none⟩ = some (.string st') ∧ w'.cell? ⟨bb, 4, none⟩ = some (.string fb'))) (go_keep) (first | (go_at_call 36; refine (fault_nil _).mono ?_; rintro e w3 ⟨rfl, rfl⟩))
  have hx := HX.out W2.drew ((Mod.refl [] W2).drew)
  go_wp2_with fail
  refine bodyPost_ret (results45 _ W2.drew ba bb _ _ _ _ _ _ _ _ _ _ hx.1 hx.2 rfl rfl) rfl ?_
  exact HT.out _ ((Mod.refl [ba, bb] W2).drew)
end Go.Proofs.YtcpjclakdpjjfaaGreatDoor
namespace Go.Proofs.YtcpjclakdpjjfaaGreatDoor
open Go.RowKit Wd Dg
/-- Two quantities laid behind. -/
theorem PqRet.fresh2 {w w1 : World} {v s V v' s' U : Int} {q q' : Option Addr} {st fb st' fb' : ByteArray} {bl bl' : List Nat} (ok : QOk w1 v s (.pointer q) V bl) (ok' : QOk w1 v' s' (.pointer q') U bl') (hn : ∀ k, k ∈ bl → w.heap.size ≤ k) (m : Mod [] w w1) (he : Env2 w) :
    ∃ W, (w1.alloc (.cells (qc v s (.pointer q) (.string st) (.string fb)) 70)).alloc (.cells (qc v' s' (.pointer q') (.string st') (.string fb')) 70) = W ∧ Qy W w1.heap.size V (.string fb) bl ∧ Hd W (w1.heap.size + 1) 70 (qc v' s' (.pointer q') (.string st') (.string fb')) ∧ QOk W v' s' (.pointer q') U bl' ∧ Env2 W ∧ Mod [] w W ∧ ∀ k, k ∈ w1.heap.size :: bl → w.heap.size ≤ k := by
  obtain ⟨⟨hq, -, -⟩, hee, hm, hfr⟩ := PqRet.fresh (st := st) (fb := fb) ok hn m he
  have ma : Mod [] w1 (w1.alloc (.cells (qc v s (.pointer q) (.string st) (.string fb)) 70)) := (Mod.refl [] w1).alloc _
  have hs : (w1.alloc (.cells (qc v s (.pointer q) (.string st) (.string fb)) 70)).heap.size = w1.heap.size + 1 := by simp
  have hd := Hd.new (w1.alloc (.cells (qc v s (.pointer q) (.string st) (.string fb)) 70)) 70 (qc v' s' (.pointer q') (.string st') (.string fb'))
  rw [hs] at hd
  generalize w1.alloc (.cells (qc v s (.pointer q) (.string st) (.string fb)) 70) = W1 at *
  have mb : Mod [] W1 (W1.alloc (.cells (qc v' s' (.pointer q') (.string st') (.string fb')) 70)) := (Mod.refl [] W1).alloc _
  exact ⟨_, rfl, hq.mod mb (by simp) (by simp), hd, (ok'.mod ma (by simp)).mod mb (by simp), hee.mod mb (by simp), hm.trans mb, hfr⟩
set_option maxHeartbeats 3200000 in
theorem qcmp_calls (s t : ByteArray) (fn gn : Nat) (V U : Int) (w : World) (he : Env2 w) (h : WordT s fn V) (k : WordT t gn U) : Calls Tryz.prog 20 #[.string s, .string t] w fun e w' => e = .returned (.tuple #[.int .i64 (cmpZI V U), .int .i64 0]) ∧ Mod [] w w' := by
  have T := Lib.hid (two_calls s t fn gn V U w he h k)
  have HE := Lib.hid he
  clear he h k
  go_enter Tryz.func20, Tryz.ntmps20
  go_wp2_with fail
  refine T.out.mono ?_
  rintro e w1 ⟨v, sc, q, st, fb, bl, v', sc', q', st', fb', bl', rfl, hf, hf', ok, ok', hn, hn', hdis, hmn, hmn', m⟩
  have L := Lib.hid (PqRet.fresh2 (st := st) (fb := fb) (st' := st') (fb' := fb') ok ok' hn m HE.out)
  have HDS := Lib.hid hdis
  clear hf hf' ok ok' hn hn' hdis hmn hmn' m T
  unfold qv
  go_upto_region 4 with fail
  obtain ⟨W, hW, hq, hy, hok, hee, hm, hfr⟩ := L.out
  unfold qc at hW hy
  rw [hW]
  generalize w1.heap.size = bq at *
  have k0 := hy.cell (i := 0) rfl
  have k1 := hy.cell (i := 1) rfl
  have k2 := hy.cell (i := 2) rfl
  have k3 := hy.cell (i := 3) rfl
  have k4 := hy.cell (i := 4) rfl
  have C := Lib.hid (q_cmp bq V _ bl v' sc' (.pointer q') (.string st') (.string fb') U bl' W hee hq hok HDS.out)
  unfold qv at C
  have HM := Lib.hid (And.intro hm hfr)
  clear hq hee hm hfr hok L hW hy HDS
  go_wp2_with fail
  refine C.out.mono ?_
  rintro e w2 ⟨rfl, m2⟩
  have M2 := Lib.hid (HM.out.1.step m2 (fun x hx => .inr (by rw [List.mem_singleton.1 hx]; exact HM.out.2 _ (by simp))))
  obtain ⟨z, hz⟩ : ∃ z, cmpZI V U = z := ⟨_, rfl⟩
  rw [hz]
  have HZ := Lib.hid hz
  clear m2 C hz
  go_wp2_with fail
  go_ret2
  exact ⟨by rw [← HZ.out]; rfl, M2.out⟩
/-- A sum's or a difference's text, its format, no fault. -/
def SmRet (fn : Nat) (V : Int) (w : World) (e : Ending) (w' : World) : Prop := ∃ t : List UInt8, e = .returned (.tuple #[.string ⟨t.toArray⟩, .int .i64 fn, .int .i64 0]) ∧ CanTxt fn V t ∧ Mod [] w w'
theorem fmt_pick {fb fb' : ByteArray} {fn gn hn : Nat} {V : Int} (hf : Fmt fb fn) (hf' : Fmt fb' gn) (h : hn = if V = 0 then gn else fn) : ∃ gb, gb = (if V = 0 then fb' else fb) ∧ Fmt gb hn := by
  refine ⟨_, rfl, ?_⟩
  rw [h]
  split
  · exact hf'
  · exact hf
set_option maxHeartbeats 6400000 in
theorem qadd_calls (s t : ByteArray) (fn gn xn : Nat) (V U : Int) (w : World) (he : Env2 w) (h : WordT s fn V) (k : WordT t gn U) (hh : xn = if V = 0 then gn else fn) (hc : CanOk xn (V + U)) : Calls Tryz.prog 30 #[.string s, .string t] w (SmRet xn (V + U) w) := by
  have T := Lib.hid (two_calls s t fn gn V U w he h k)
  have HE := Lib.hid (And.intro he (And.intro hh hc))
  clear he h k hh hc
  go_enter Tryz.func30, Tryz.ntmps30
  go_wp2_with fail
  refine T.out.mono ?_
  rintro e w1 ⟨v, sc, q, st, fb, bl, v', sc', q', st', fb', bl', rfl, hf, hf', ok, ok', hn, hn', hdis, hmn, hmn', m⟩
  have L := Lib.hid (PqRet.fresh2 (st := st) (fb := fb) (st' := st') (fb' := fb') ok ok' hn m HE.out.1)
  obtain ⟨gb, hgb, hgf⟩ := fmt_pick (V := V) hf hf' HE.out.2.1
  have HG := Lib.hid (And.intro hgb (And.intro hgf (And.intro hmn' hdis)))
  clear hf hf' ok ok' hn hn' hdis hmn hmn' m T hgb hgf
  unfold qv
  go_upto_region 4 with fail
  obtain ⟨W, hW, hq, hy, hok, hee, hm, hfr⟩ := L.out
  unfold qc at hW hy
  rw [hW]
  generalize w1.heap.size = bq at *
  have k0 := hy.cell (i := 0) rfl
  have k1 := hy.cell (i := 1) rfl
  have k2 := hy.cell (i := 2) rfl
  have k3 := hy.cell (i := 3) rfl
  have k4 := hy.cell (i := 4) rfl
  have C := Lib.hid (q_add bq V fb bl v' sc' (.pointer q') (.string st') fb' U bl' gb HG.out.1 W hee hq hok HG.out.2.2.2 (can_vb HE.out.2.2))
  unfold qv at C
  have HM := Lib.hid (And.intro hm (And.intro hfr hee))
  clear hq hee hm hfr hok L hW hy
  go_wp2_with fail
  refine C.out.mono ?_
  rintro e w2 ⟨rfl, hqt⟩
  obtain ⟨bl2, j1, j2, j3⟩ := hqt.behind HM.out.2.1 HM.out.1 HM.out.2.2 HE.out.1.env.big
  have CA := Lib.hid (fun w' (m : Mod [] w2 w') => canonical_calls gb xn HG.out.2.1 bq _ bl2 w' (j2.mod m (by simp)) (j1.mod m (by simp) (by simp)) (can_may HE.out.2.2))
  have FO := Lib.hid (fun w' => formatOf_calls gb xn HG.out.2.1 w')
  obtain ⟨v5, s5, d5, st5, hd5, -⟩ := j1.q
  have HP := Lib.hid (fun (w' : World) (m : Mod [] w2 w') => show w'.cell? ⟨bq, 4, none⟩ = some (.string gb) from Hd.cell (Hd.mod hd5 m (by simp)) rfl)
  have d0 := HP.out w2 (Mod.refl _ _)
  have K3 := Lib.hid j3
  clear hqt j1 j2 j3 C hd5 k0 k1 k2 k3 k4
  go_upto_region 5 with fail
  go_region_held3 (fun w' => w'.cell? ⟨bq, 4, none⟩ = some (.string gb)) (go_keep) (first | (go_at_call 37; refine (CA.out _ ((Mod.refl [] w2).drewN _)).mono ?_; rintro e w3 ⟨tx, rfl, ht, m3⟩; have HT := Lib.hid ht; have M3 := Lib.hid (((Mod.refl [] w2).drewN _).trans m3); have d1 := HP.out w3 M3.out; clear m3 ht) | (go_at_call 38; refine (FO.out _).mono ?_; rintro e w3 ⟨rfl, rfl⟩))
  go_wp2_with fail
  go_ret3
  exact ⟨tx, rfl, HT.out, K3.out.trans M3.out⟩
set_option maxHeartbeats 6400000 in
theorem qsub_calls (s t : ByteArray) (fn gn xn : Nat) (V U : Int) (w : World) (he : Env2 w) (h : WordT s fn V) (k : WordT t gn U) (hh : xn = if V = 0 then gn else fn) (hc : CanOk xn (V - U)) : Calls Tryz.prog 31 #[.string s, .string t] w (SmRet xn (V - U) w) := by
  have T := Lib.hid (two_calls s t fn gn V U w he h k)
  have HE := Lib.hid (And.intro he (And.intro hh hc))
  clear he h k hh hc
  go_enter Tryz.func31, Tryz.ntmps31
  go_wp2_with fail
  refine T.out.mono ?_
  rintro e w1 ⟨v, sc, q, st, fb, bl, v', sc', q', st', fb', bl', rfl, hf, hf', ok, ok', hn, hn', hdis, hmn, hmn', m⟩
  have L := Lib.hid (PqRet.fresh2 (st := st) (fb := fb) (st' := st') (fb' := fb') ok ok' hn m HE.out.1)
  obtain ⟨gb, hgb, hgf⟩ := fmt_pick (V := V) hf hf' HE.out.2.1
  have HG := Lib.hid (And.intro hgb (And.intro hgf (And.intro hmn' hdis)))
  clear hf hf' ok ok' hn hn' hdis hmn hmn' m T hgb hgf
  unfold qv
  go_upto_region 4 with fail
  obtain ⟨W, hW, hq, hy, hok, hee, hm, hfr⟩ := L.out
  unfold qc at hW hy
  rw [hW]
  generalize w1.heap.size = bq at *
  have k0 := hy.cell (i := 0) rfl
  have k1 := hy.cell (i := 1) rfl
  have k2 := hy.cell (i := 2) rfl
  have k3 := hy.cell (i := 3) rfl
  have k4 := hy.cell (i := 4) rfl
  have C := Lib.hid (q_sub bq V fb bl v' sc' (.pointer q') (.string st') fb' U bl' gb HG.out.1 W hee hq hok HG.out.2.2.2 HG.out.2.2.1 (can_vb HE.out.2.2))
  unfold qv at C
  have HM := Lib.hid (And.intro hm (And.intro hfr hee))
  clear hq hee hm hfr hok L hW hy
  go_wp2_with fail
  refine C.out.mono ?_
  rintro e w2 ⟨rfl, hqt⟩
  obtain ⟨bl2, j1, j2, j3⟩ := hqt.behind HM.out.2.1 HM.out.1 HM.out.2.2 HE.out.1.env.big
  have CA := Lib.hid (fun w' (m : Mod [] w2 w') => canonical_calls gb xn HG.out.2.1 bq _ bl2 w' (j2.mod m (by simp)) (j1.mod m (by simp) (by simp)) (can_may HE.out.2.2))
  have FO := Lib.hid (fun w' => formatOf_calls gb xn HG.out.2.1 w')
  obtain ⟨v5, s5, d5, st5, hd5, -⟩ := j1.q
  have HP := Lib.hid (fun (w' : World) (m : Mod [] w2 w') => show w'.cell? ⟨bq, 4, none⟩ = some (.string gb) from Hd.cell (Hd.mod hd5 m (by simp)) rfl)
  have d0 := HP.out w2 (Mod.refl _ _)
  have K3 := Lib.hid j3
  clear hqt j1 j2 j3 C hd5 k0 k1 k2 k3 k4
  go_upto_region 5 with fail
  go_region_held3 (fun w' => w'.cell? ⟨bq, 4, none⟩ = some (.string gb)) (go_keep) (first | (go_at_call 37; refine (CA.out _ ((Mod.refl [] w2).drewN _)).mono ?_; rintro e w3 ⟨tx, rfl, ht, m3⟩; have HT := Lib.hid ht; have M3 := Lib.hid (((Mod.refl [] w2).drewN _).trans m3); have d1 := HP.out w3 M3.out; clear m3 ht) | (go_at_call 38; refine (FO.out _).mono ?_; rintro e w3 ⟨rfl, rfl⟩))
  go_wp2_with fail
  go_ret3
  exact ⟨tx, rfl, HT.out, K3.out.trans M3.out⟩
end Go.Proofs.YtcpjclakdpjjfaaGreatDoor
namespace Go.Proofs.YtcpjclakdpjjfaaGreatDoor
open Go.RowKit Wd Dg
/-- A canonical text of a kind by ten is a word again. -/
theorem can_wordA {fn : Nat} {V : Int} {t : List UInt8} (h : CanTxt fn V t) (hk : fn ≠ 1) (hc : CanOk fn V) : ∃ fn' : Nat, fn' ≠ 1 ∧ WordT ⟨t.toArray⟩ fn' V := by
  by_cases h0 : V = 0
  · have ht : t = [48] := by
      rcases h with ⟨-, h⟩ | ⟨h, -⟩ | ⟨h, -⟩
      · exact h
      · exact (h h0).elim
      · exact (hk h).elim
    subst ht
    refine ⟨2, by decide, ⟨⟨[], [48], [], [], false, 0, rfl, .inl rfl, bd_of (by decide), bd_of (by decide), fun _ => rfl, by decide, .inl ⟨rfl, .inl ⟨rfl, rfl⟩⟩, by decide, ?_⟩, hc.1, hc.2.1, fun h => by cases h⟩⟩
    rw [h0]
    unfold qV
    rw [if_neg (by decide), show bv ([48] ++ []) = 0 by decide]
    simp
  · exact can_wordT h hk h0 hc
theorem up_ne0 {V : Int} {q : Nat} (hq : 0 < q) (h : V ≠ 0) : up V q ≠ 0 := by
  have h1 : 1 ≤ upA V.natAbs q := by unfold upA; exact (Nat.le_div_iff_mul_le hq).2 (by omega)
  unfold up
  split <;> omega
theorem rup10_ne0 {V : Int} (c : Int) (h : V ≠ 0) : rup10 V c ≠ 0 := Int.mul_ne_zero (up_ne0 (sc_pos c) h) (by have := sc_pos c; omega)
theorem rup_vb {V c : Int} (h : V.natAbs ≤ 9223372036854775807 * sc 0) (h1 : -9 ≤ c) (h2 : c ≤ 18) : VB (rup10 V c) := by
  have hU : (up V (sc c)).natAbs = upA V.natAbs (sc c) := by unfold up; split <;> simp
  have h3 : upA V.natAbs (sc c) * sc c ≤ V.natAbs + sc c := by
    unfold upA
    have := Nat.div_mul_le_self (V.natAbs + sc c - 1) (sc c)
    omega
  have h4 : sc c ≤ sc 18 := sc_mono h2
  have h5 : sc 18 = 10 ^ 18 * sc 0 := sc_split (s := 0) (c := 18) (k := 18) rfl (by decide)
  rw [show (10 : Nat) ^ 18 = 1000000000000000000 by decide] at h5
  refine ⟨?_, ⟨up V (sc c) * ((10 ^ (c + 9).toNat : Nat) : Int), ?_⟩⟩
  · unfold rup10
    rw [Int.natAbs_mul, Int.natAbs_natCast, hU]
    generalize sc 0 = z at *
    generalize sc 18 = y at *
    generalize upA V.natAbs (sc c) * sc c = x at *
    generalize sc c = u at *
    omega
  · unfold rup10
    rw [Int.mul_assoc, ← Int.natCast_mul, ← sc_split (c := c) (s := -9) (k := (c + 9).toNat) (by omega) (by decide)]
/-- The canonical digits of a number are its digits, at the exponent's rest. -/
theorem _root_.Dg.DF.digits {neg : Bool} {l : List Nat} {ex V lo hi M e : Int} (h : Dg.DF neg l ex V lo hi) (hV : V ≠ 0) (hc : Cn V M e) (hlo : -390 ≤ lo) (hhi : hi - lo ≤ 900) : e % 3 = 0 ∧ e ≤ ex ∧ ex < e + 3 ∧ Dg.DF neg l (ex - e) (M * sc 0) (ex - e) (ex - e + l.length) := by
  have hl : l ≠ [] := fun h0 => hV (h.eq0.2 h0)
  have g1 := h.ge hl
  have g2 := h.le hl
  obtain ⟨E, h1, h2, h3⟩ : ∃ E : Int, E % 3 = 0 ∧ E ≤ ex ∧ ex < E + 3 := ⟨ex - ex % 3, by omega, by omega, by omega⟩
  have k := h.cn hl (E := E) h1 h2 h3 (by omega)
  obtain ⟨rfl, rfl⟩ := hc.unique k
  refine ⟨h1, h2, h3, ?_⟩
  have := h.at hl (x := ex - e) (hi' := ex - e + l.length) (by omega) (Int.le_refl _) (by omega)
  rwa [Dg.DF.int (by omega)] at this
end Go.Proofs.YtcpjclakdpjjfaaGreatDoor
namespace Go.Proofs.YtcpjclakdpjjfaaGreatDoor
open Go.RowKit Wd Dg
theorem sgV_ne {V r : Int} (h : V ≠ 0) (hr : sgV V = r) : (r == 0) = false := by
  rw [beq_eq_false_iff_ne, ← hr]
  unfold sgV
  split <;> first | decide | (rename_i h1; exact absurd h1 h)
set_option maxRecDepth 20000 in
set_option maxHeartbeats 12800000 in
theorem law_back_calls (sign : Int) (num : ByteArray) (dot : Bool) (den : ByteArray) (kind place : Int) (up : Bool) (ps : Int) (pow : ByteArray) (sign' : Int) (num' : ByteArray) (dot' : Bool) (den' : ByteArray) (kind' place' : Int) (up' : Bool) (ps' : Int) (pow' : ByteArray) (w : World) (he : Env2 w) :
    Calls Tryz.prog 8 #[qwv sign num dot den kind place up ps pow, qwv sign' num' dot' den' kind' place' up' ps' pow'] w fun e w' => e = .returned (.bool true) ∧ Mod [] w w' := by
  have hs0 : (w.alloc (.cells #[.int .i64 sign, .string num, .bool dot, .string den, .int .i64 kind, .int .i64 place, .bool up, .int .i64 ps, .string pow] 23)).heap.size = w.heap.size + 1 := by simp
  have ha := Hd.new w 23 #[.int .i64 sign, .string num, .bool dot, .string den, .int .i64 kind, .int .i64 place, .bool up, .int .i64 ps, .string pow]
  have hb := Hd.new (w.alloc (.cells #[.int .i64 sign, .string num, .bool dot, .string den, .int .i64 kind, .int .i64 place, .bool up, .int .i64 ps, .string pow] 23)) 23 #[.int .i64 sign', .string num', .bool dot', .string den', .int .i64 kind', .int .i64 place', .bool up', .int .i64 ps', .string pow']
  rw [hs0] at hb
  have m1 : Mod [] w (w.alloc (.cells #[.int .i64 sign, .string num, .bool dot, .string den, .int .i64 kind, .int .i64 place, .bool up, .int .i64 ps, .string pow] 23)) := (Mod.refl [] w).alloc _
  have m2 : Mod [] (w.alloc (.cells #[.int .i64 sign, .string num, .bool dot, .string den, .int .i64 kind, .int .i64 place, .bool up, .int .i64 ps, .string pow] 23)) ((w.alloc (.cells #[.int .i64 sign, .string num, .bool dot, .string den, .int .i64 kind, .int .i64 place, .bool up, .int .i64 ps, .string pow] 23)).alloc (.cells #[.int .i64 sign', .string num', .bool dot', .string den', .int .i64 kind', .int .i64 place', .bool up', .int .i64 ps', .string pow'] 23)) := (Mod.refl [] _).alloc _
  have HD := Lib.hid (And.intro (ha.mod m2 (by simp)) (And.intro hb (m1.trans m2)))
  have F := Lib.hid (fun w' => fits_calls sign num dot den kind place up ps pow w')
  have Q := Lib.hid (fun w' h1 h2 h3 => quantityOf_calls sign num dot den kind place up ps pow w' h1 h2 h3)
  have F' := Lib.hid (fun w' => fits_calls sign' num' dot' den' kind' place' up' ps' pow' w')
  have Q' := Lib.hid (fun w' h1 h2 h3 => quantityOf_calls sign' num' dot' den' kind' place' up' ps' pow' w' h1 h2 h3)
  have HE := Lib.hid he
  clear hs0 ha hb m1 m2 he
  unfold qwv at *
  go_enter Tryz.func8, Tryz.ntmps8
  go_upto_region 1 with fail
  obtain ⟨ha, hb, hm⟩ := HD.out
  generalize (w.alloc (.cells #[.int .i64 sign, .string num, .bool dot, .string den, .int .i64 kind, .int .i64 place, .bool up, .int .i64 ps, .string pow] 23)).alloc (.cells #[.int .i64 sign', .string num', .bool dot', .string den', .int .i64 kind', .int .i64 place', .bool up', .int .i64 ps', .string pow'] 23) = W at *
  obtain ⟨b2, hb2⟩ : ∃ b2, w.heap.size + 1 = b2 := ⟨_, rfl⟩
  rw [hb2] at hb
  rw [hb2]
  clear hb2 HD
  generalize hb1 : w.heap.size = b1 at *
  clear hb1
  have HM := Lib.hid hm
  have HA := Lib.hid (fun (w' : World) (m : Mod [] W w') => Hd.mod ha m (by simp))
  have HB := Lib.hid (fun (w' : World) (m : Mod [] W w') => Hd.mod hb m (by simp))
  have e0 := ha.cell (i := 0) rfl
  have e1 := ha.cell (i := 1) rfl
  have e2 := ha.cell (i := 2) rfl
  have e3 := ha.cell (i := 3) rfl
  have e4 := ha.cell (i := 4) rfl
  have e5 := ha.cell (i := 5) rfl
  have e6 := ha.cell (i := 6) rfl
  have e7 := ha.cell (i := 7) rfl
  have e8 := ha.cell (i := 8) rfl
  clear ha hb hm
  go_wp2_with fail
  refine (F.out _).mono ?_
  rintro e w1 ⟨⟨b, rfl, hb⟩, m1⟩
  have M1 := Lib.hid m1
  have HS := Lib.hid hb
  clear m1 hb F e0 e1 e2 e3 e4 e5 e6 e7 e8
  cases b
  · go_wp2_with fail
    go_ret
    exact ⟨rfl, HM.out.trans M1.out⟩
  have hb1 := HB.out w1 M1.out
  have f0 := hb1.cell (i := 0) rfl
  have f1 := hb1.cell (i := 1) rfl
  have f2 := hb1.cell (i := 2) rfl
  have f3 := hb1.cell (i := 3) rfl
  have f4 := hb1.cell (i := 4) rfl
  have f5 := hb1.cell (i := 5) rfl
  have f6 := hb1.cell (i := 6) rfl
  have f7 := hb1.cell (i := 7) rfl
  have f8 := hb1.cell (i := 8) rfl
  clear hb1
  go_wp2_with fail
  refine (F'.out _).mono ?_
  rintro e w2 ⟨⟨b, rfl, hb⟩, m2⟩
  have M2 := Lib.hid (M1.out.trans m2)
  have HS' := Lib.hid hb
  clear m2 hb F' M1 f0 f1 f2 f3 f4 f5 f6 f7 f8
  cases b
  · go_wp2_with fail
    go_ret
    exact ⟨rfl, HM.out.trans M2.out⟩
  have ha2 := HA.out w2 M2.out
  have e0 := ha2.cell (i := 0) rfl
  have e1 := ha2.cell (i := 1) rfl
  have e2 := ha2.cell (i := 2) rfl
  have e3 := ha2.cell (i := 3) rfl
  have e4 := ha2.cell (i := 4) rfl
  have e5 := ha2.cell (i := 5) rfl
  have e6 := ha2.cell (i := 6) rfl
  have e7 := ha2.cell (i := 7) rfl
  have e8 := ha2.cell (i := 8) rfl
  have QA := Lib.hid (by have h := HS.out; simp only [forall_const] at h; exact Q.out w2 h.1 h.2.1 h.2.2)
  clear ha2 Q HS
  go_wp2_with fail
  refine QA.out.mono ?_
  rintro e w3 ⟨tx, d, c, ok, V, rfl, hdc, hok, m3⟩
  have M3 := Lib.hid (M2.out.trans m3)
  have HOK := Lib.hid hok
  have HDC := Lib.hid hdc
  obtain ⟨neg, sl, l, ex, rfl, hir, -⟩ := hdc
  obtain ⟨sa, sc', rfl, -, -⟩ := hir.form
  clear m3 hok hir QA M2 e0 e1 e2 e3 e4 e5 e6 e7 e8
  unfold dcv
  go_upto_region 4 with fail
  have hda := Hd.new w3 27 #[.bool neg, .slice sa l.length sc', .int .i64 ex]
  have m4 : Mod [] w3 (w3.alloc (.cells #[.bool neg, .slice sa l.length sc', .int .i64 ex] 27)) := (Mod.refl [] w3).alloc _
  generalize w3.alloc (.cells #[.bool neg, .slice sa l.length sc', .int .i64 ex] 27) = W4 at *
  generalize w3.heap.size = ba at *
  have M4 := Lib.hid (M3.out.trans m4)
  have DA := Lib.hid (HDC.out.mod m4)
  have HPa := Lib.hid (fun (w' : World) (m : Mod [] W4 w') => Hd.mod hda m (by simp))
  have hb4 := HB.out W4 M4.out
  have f0 := hb4.cell (i := 0) rfl
  have f1 := hb4.cell (i := 1) rfl
  have f2 := hb4.cell (i := 2) rfl
  have f3 := hb4.cell (i := 3) rfl
  have f4 := hb4.cell (i := 4) rfl
  have f5 := hb4.cell (i := 5) rfl
  have f6 := hb4.cell (i := 6) rfl
  have f7 := hb4.cell (i := 7) rfl
  have f8 := hb4.cell (i := 8) rfl
  have QB := Lib.hid (by have h := HS'.out; simp only [forall_const] at h; exact Q'.out W4 h.1 h.2.1 h.2.2)
  clear hb4 hda m4 M3 HDC Q' HS'
  go_wp2_with fail
  refine QB.out.mono ?_
  rintro e w5 ⟨ty, d, c', ok', U, rfl, hdc, hok, m5⟩
  have M5 := Lib.hid (And.intro (M4.out.trans m5) m5)
  have HOK' := Lib.hid hok
  have HDC' := Lib.hid hdc
  obtain ⟨neg', sl, l', ex', rfl, hir, -⟩ := hdc
  obtain ⟨sa', sd, rfl, -, -⟩ := hir.form
  clear m5 hok hir QB M4 f0 f1 f2 f3 f4 f5 f6 f7 f8
  unfold dcv
  go_upto_region 5 with fail
  have hdb := Hd.new w5 27 #[.bool neg', .slice sa' l'.length sd, .int .i64 ex']
  have m6 : Mod [] w5 (w5.alloc (.cells #[.bool neg', .slice sa' l'.length sd, .int .i64 ex'] 27)) := (Mod.refl [] w5).alloc _
  generalize w5.alloc (.cells #[.bool neg', .slice sa' l'.length sd, .int .i64 ex'] 27) = W6 at *
  generalize w5.heap.size = bb at *
  have M6 := Lib.hid (HM.out.trans (M5.out.1.trans m6))
  have DA6 := Lib.hid (DA.out.mod (M5.out.2.trans m6))
  have DB6 := Lib.hid (HDC'.out.mod m6)
  have hda := HPa.out W6 (M5.out.2.trans m6)
  have HA6 := Lib.hid (fun (w' : World) (m : Mod [] W6 w') => Hd.mod hda m (by simp))
  have HB6 := Lib.hid (fun (w' : World) (m : Mod [] W6 w') => Hd.mod hdb m (by simp))
  have NA := Lib.hid (M5.out.1.trans m6)
  clear hda hdb m6 M5 DA HDC' HPa
  have hda6 := HA6.out W6 (Mod.refl _ _)
  have hdb6 := HB6.out W6 (Mod.refl _ _)
  have p0 := hda6.cell (i := 0) rfl
  have p1 := hda6.cell (i := 1) rfl
  have p2 := hda6.cell (i := 2) rfl
  have q0 := hdb6.cell (i := 0) rfl
  have q1 := hdb6.cell (i := 1) rfl
  have q2 := hdb6.cell (i := 2) rfl
  have SA := Lib.hid (spec_add _ _ V U (-170) 240 W6 DA6.out DB6.out (by decide) (by decide))
  unfold dcv at SA
  clear hda6 hdb6
  go_wp2_with fail
  refine SA.out.mono ?_
  rintro e w7 ⟨d, rfl, hdc, m7⟩
  have N7 := Lib.hid m7
  have HDC := Lib.hid hdc
  obtain ⟨neg2, sl, l2, ex2, rfl, hir, -⟩ := hdc
  obtain ⟨sa2, se, rfl, -, -⟩ := hir.form
  clear m7 hir SA p0 p1 p2 q0 q1 q2
  unfold dcv
  go_upto_region 6 with fail
  have hdc := Hd.new w7 27 #[.bool neg2, .slice sa2 l2.length se, .int .i64 ex2]
  have m8 : Mod [] w7 (w7.alloc (.cells #[.bool neg2, .slice sa2 l2.length se, .int .i64 ex2] 27)) := (Mod.refl [] w7).alloc _
  generalize w7.alloc (.cells #[.bool neg2, .slice sa2 l2.length se, .int .i64 ex2] 27) = W8 at *
  generalize w7.heap.size = bc at *
  have M8 := Lib.hid (M6.out.trans (N7.out.trans m8))
  have DA8 := Lib.hid (DA6.out.mod (N7.out.trans m8))
  have DC8 := Lib.hid (HDC.out.mod m8)
  have hda := HA6.out W8 (N7.out.trans m8)
  have HA8 := Lib.hid (fun (w' : World) (m : Mod [] W8 w') => Hd.mod hda m (by simp))
  have HC8 := Lib.hid (fun (w' : World) (m : Mod [] W8 w') => Hd.mod hdc m (by simp))
  have KA := Lib.hid (show W8.cell? ⟨b1, 4, none⟩ = some (.int .i64 kind) from (HA.out W8 (NA.out.trans (N7.out.trans m8))).cell (i := 4) rfl)
  have KB := Lib.hid (show W8.cell? ⟨b2, 4, none⟩ = some (.int .i64 kind') from (HB.out W8 (NA.out.trans (N7.out.trans m8))).cell (i := 4) rfl)
  clear hda hdc m8 DA6 DB6 HA6 HB6 HDC N7
  cases ok
  · go_wp2_with fail
    go_ret
    exact ⟨rfl, M8.out⟩
  cases ok'
  · go_wp2_with fail
    go_ret
    exact ⟨rfl, M8.out⟩
  have hh := HOK.out (by first | rfl | trivial)
  obtain ⟨fn, rfl⟩ : ∃ fn : Nat, kind = fn := ⟨kind.toNat, by rcases hh.1.k with ⟨h, -⟩ | ⟨h, -⟩ | ⟨h, -⟩ <;> omega⟩
  rw [Int.toNat_natCast] at hh
  have WT := Lib.hid hh.2.2.1
  clear hh HOK
  have hh := HOK'.out (by first | rfl | trivial)
  obtain ⟨gn, rfl⟩ : ∃ gn : Nat, kind' = gn := ⟨kind'.toNat, by rcases hh.1.k with ⟨h, -⟩ | ⟨h, -⟩ | ⟨h, -⟩ <;> omega⟩
  rw [Int.toNat_natCast] at hh
  have WT' := Lib.hid hh.2.2.1
  clear hh HOK'
  have ka := KA.out
  by_cases hk1 : fn = 1
  · have t1 : ((fn : Int) == 1) = true := by rw [beq_iff_eq]; omega
    go_wp2_with fail
    go_ret
    exact ⟨rfl, M8.out⟩
  have t1 : ((fn : Int) == 1) = false := by rw [beq_eq_false_iff_ne]; omega
  have kb := KB.out
  by_cases hk2 : gn = 1
  · have t2 : ((gn : Int) == 1) = true := by rw [beq_iff_eq]; omega
    go_wp2_with fail
    go_ret
    exact ⟨rfl, M8.out⟩
  have t2 : ((gn : Int) == 1) = false := by rw [beq_eq_false_iff_ne]; omega
  have HK := Lib.hid (And.intro hk1 hk2)
  have hd8 := HC8.out W8 (Mod.refl _ _)
  have p0 := hd8.cell (i := 0) rfl
  have p1 := hd8.cell (i := 1) rfl
  have p2 := hd8.cell (i := 2) rfl
  have MY := Lib.hid (spec_may _ (V + U) (-170) 241 W8 DC8.out)
  unfold dcv at MY
  clear hd8 hk1 hk2
  go_wp2_with fail
  refine MY.out.mono ?_
  rintro e w9 ⟨⟨bm, rfl, hbm⟩, m9⟩
  have N9 := Lib.hid m9
  have HBM := Lib.hid hbm
  clear m9 hbm MY p0 p1 p2 ka kb
  cases bm
  · go_wp2_with fail
    go_ret
    exact ⟨rfl, M8.out.trans N9.out⟩
  have hd9 := HA8.out w9 N9.out
  have p0 := hd9.cell (i := 0) rfl
  have p1 := hd9.cell (i := 1) rfl
  have p2 := hd9.cell (i := 2) rfl
  have S1 := Lib.hid (spec_sign _ V (-170) 240 w9 (DA8.out.mod N9.out))
  unfold dcv at S1
  clear hd9
  go_wp2_with fail
  refine S1.out.mono ?_
  rintro e w10 ⟨rfl, m10⟩
  have N10 := Lib.hid (N9.out.trans m10)
  clear m10 p0 p1 p2 S1 N9
  obtain ⟨r, hr⟩ : ∃ r, sgV V = r := ⟨_, rfl⟩
  rw [hr]
  by_cases hV0 : V = 0
  · have t3 : (r == 0) = true := by rw [← hr, hV0]; rfl
    clear hr hV0
    go_wp2_with fail
    go_ret
    exact ⟨rfl, M8.out.trans N10.out⟩
  have t3 : (r == 0) = false := sgV_ne hV0 hr
  have HV0 := Lib.hid hV0
  clear hr hV0
  have hd10 := HC8.out w10 N10.out
  have p0 := hd10.cell (i := 0) rfl
  have p1 := hd10.cell (i := 1) rfl
  have p2 := hd10.cell (i := 2) rfl
  have S2 := Lib.hid (spec_sign _ (V + U) (-170) 241 w10 (DC8.out.mod N10.out))
  unfold dcv at S2
  clear hd10
  go_wp2_with fail
  refine S2.out.mono ?_
  rintro e w11 ⟨rfl, m11⟩
  have N11 := Lib.hid (N10.out.trans m11)
  clear m11 p0 p1 p2 S2 N10
  obtain ⟨r2, hr⟩ : ∃ r, sgV (V + U) = r := ⟨_, rfl⟩
  rw [hr]
  by_cases hV0 : V + U = 0
  · have t4 : (r2 == 0) = true := by rw [← hr, hV0]; rfl
    clear hr hV0
    go_wp2_with fail
    go_ret
    exact ⟨rfl, M8.out.trans N11.out⟩
  have t4 : (r2 == 0) = false := sgV_ne hV0 hr
  have HS0 := Lib.hid hV0
  have CX := Lib.hid (show CanOk fn (V + U) from MayV.ok (HBM.out.1 (by first | rfl | trivial)) HK.out.1)
  have A1 := Lib.hid (qadd_calls tx ty fn gn fn V U w11 (HE.out.mod (M8.out.trans N11.out) (by simp)) WT.out WT'.out (by rw [if_neg HV0.out]) CX.out)
  clear hr hV0 HA8 HC8 HA HB NA
  go_wp2_with fail
  refine A1.out.mono ?_
  rintro e w12 ⟨sx, rfl, hx, m12⟩
  have N12 := Lib.hid (N11.out.trans m12)
  obtain ⟨fx, hfx, hwx⟩ := can_wordA hx HK.out.1 CX.out
  obtain ⟨tz, htz⟩ : ∃ s : ByteArray, (⟨sx.toArray⟩ : ByteArray) = s := ⟨_, rfl⟩
  rw [htz] at hwx
  rw [htz]
  have HX := Lib.hid (And.intro hfx hwx)
  have CY := Lib.hid (show CanOk fx (V + U - U) by rw [Int.add_sub_cancel]; exact ⟨WT.out.ok.1, WT.out.ok.2.1, fun h => (hfx h).elim⟩)
  have A2 := Lib.hid (qsub_calls tz ty fx gn fx (V + U) U w12 (HE.out.mod (M8.out.trans N12.out) (by simp)) hwx WT'.out (by rw [if_neg HS0.out]) CY.out)
  clear hx hwx hfx htz m12 A1 N11
  go_wp2_with fail
  refine A2.out.mono ?_
  rintro e w13 ⟨sy, rfl, hy, m13⟩
  have N13 := Lib.hid (N12.out.trans m13)
  obtain ⟨fy, hfy, hwy⟩ := can_wordA hy HX.out.1 CY.out
  rw [Int.add_sub_cancel] at hwy
  obtain ⟨ty2, htz⟩ : ∃ s : ByteArray, (⟨sy.toArray⟩ : ByteArray) = s := ⟨_, rfl⟩
  rw [htz] at hwy
  rw [htz]
  have HY := Lib.hid hwy
  obtain ⟨hn, hhn⟩ : ∃ n : Nat, n = if U = 0 then fn else gn := ⟨_, rfl⟩
  have hn1 : hn ≠ 1 := by
    rw [hhn]
    split
    · exact HK.out.1
    · exact HK.out.2
  have CZ := Lib.hid (show CanOk hn (U + V) by rw [Int.add_comm]; exact ⟨CX.out.1, CX.out.2.1, fun h => (hn1 h).elim⟩)
  have A3 := Lib.hid (qadd_calls ty tx gn fn hn U V w13 (HE.out.mod (M8.out.trans N13.out) (by simp)) WT'.out WT.out hhn CZ.out)
  have HN1 := Lib.hid hn1
  clear hy hwy hfy htz m13 A2 N12 hhn hn1
  go_wp2_with fail
  refine A3.out.mono ?_
  rintro e w14 ⟨sz, rfl, hz, m14⟩
  have N14 := Lib.hid (N13.out.trans m14)
  obtain ⟨fz, -, hwz⟩ := can_wordA hz HN1.out CZ.out
  obtain ⟨tz2, htz⟩ : ∃ s : ByteArray, (⟨sz.toArray⟩ : ByteArray) = s := ⟨_, rfl⟩
  rw [htz] at hwz
  rw [htz]
  have C1 := Lib.hid (qcmp_calls tz tz2 fx fz (V + U) (U + V) w14 (HE.out.mod (M8.out.trans N14.out) (by simp)) HX.out.2 hwz)
  rw [cmpZI_eq (Int.add_comm V U)] at C1
  clear hz hwz htz m14 A3 N13
  go_wp2_with fail
  refine C1.out.mono ?_
  rintro e w15 ⟨rfl, m15⟩
  have N15 := Lib.hid (N14.out.trans m15)
  have C2 := Lib.hid (qcmp_calls ty2 tx fy fn V V w15 (HE.out.mod (M8.out.trans N15.out) (by simp)) HY.out WT.out)
  rw [cmpZI_eq (rfl : V = V)] at C2
  clear m15 C1 N14
  go_wp2_with fail
  refine C2.out.mono ?_
  rintro e w16 ⟨rfl, m16⟩
  have N16 := Lib.hid (N15.out.trans m16)
  have AW := Lib.hid (awake_calls w16 (HE.out.mod (M8.out.trans N16.out) (by simp)))
  clear m16 C2 N15
  go_wp2_with fail
  refine AW.out.mono ?_
  rintro e w17 ⟨rfl, m17⟩
  have N17 := Lib.hid (N16.out.trans m17)
  clear m17 AW
  go_wp2_with fail
  go_ret
  exact ⟨rfl, M8.out.trans N17.out⟩
end Go.Proofs.YtcpjclakdpjjfaaGreatDoor
