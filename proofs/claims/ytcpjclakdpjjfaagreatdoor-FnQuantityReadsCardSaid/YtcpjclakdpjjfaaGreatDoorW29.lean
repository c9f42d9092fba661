/- Amounts as inf.Dec: rounded to a scale, the digits by 1024 (resource/amount.go: infDecAmount). Amounts: the digits by 1024 (resource/amount.go: AsCanonicalBase1024Bytes). Quantities (resource/quantity.go): what they mean; IsZero, Sign, AsDec, ToDec. -/
import Derived.Test.YtcpjclakdpjjfaaGreatDoorW24
import Derived.Test.YtcpjclakdpjjfaaGreatDoorW28
namespace Go.Proofs.YtcpjclakdpjjfaaGreatDoor
open Go.RowKit Wd Dg
/-- What is asked of a decimal's number and scale. -/
structure DB (n c : Int) : Prop where
  n : n.natAbs < B ^ 12
  lo : -170 ≤ c
  hi : c ≤ 170
theorem DB.b7 {n c : Int} (h : DB n c) : n.natAbs < B ^ 20 := Nat.lt_trans h.n (Nat.pow_lt_pow_right B_one (by omega))
theorem DB.big {n c : Int} (h : DB n c) : n.natAbs < Big := Nat.lt_trans h.n (by rw [Big_eq]; exact Nat.pow_lt_pow_right B_one (by omega))
theorem DB.pow {n c : Int} (h : DB n c) {k : Nat} (hk : k ≤ 400) : (n * (10 ^ k : Nat)).natAbs < Big := by
  rw [Int.natAbs_mul, Int.natAbs_natCast]
  have h2 : 10 ^ k ≤ B ^ 21 := Nat.le_trans (Nat.pow_le_pow_right (by decide) hk) (by rw [B_eq]; decide +kernel)
  have h3 : n.natAbs * 10 ^ k < B ^ 12 * B ^ 21 := Nat.lt_of_lt_of_le (Nat.mul_lt_mul_of_pos_right h.n (Nat.pow_pos (by decide))) (Nat.mul_le_mul_left _ h2)
  rw [← Nat.pow_add] at h3
  exact Nat.lt_trans h3 (by rw [Big_eq]; exact Nat.pow_lt_pow_right B_one (by omega))
theorem up_abs {M : Int} {p : Nat} (hp : 0 < p) : (up M p).natAbs ≤ M.natAbs := by
  have h : upA M.natAbs p ≤ M.natAbs := by
    unfold upA
    rcases Nat.eq_zero_or_pos M.natAbs with h | h
    · rw [h]; simp [Nat.div_eq_of_lt (show p - 1 < p by omega)]
    · rw [Nat.div_le_iff_le_mul_add_pred hp]
      have : M.natAbs ≤ p * M.natAbs := Nat.le_mul_of_pos_left _ hp
      omega
  unfold up
  split <;> omega
theorem DB.rnd {n c s : Int} (h : DB n c) (h2 : s ≤ 170) : (rnd n c s).natAbs < Big := by
  unfold Go.Proofs.YtcpjclakdpjjfaaGreatDoor.rnd
  split
  · have := h.lo
    exact h.pow (by omega)
  · exact Nat.lt_of_le_of_lt (up_abs (Nat.pow_pos (by decide))) h.big
theorem rndDown {n c s : Int} (hs : s ≤ c) : (Go.Proofs.YtcpjclakdpjjfaaGreatDoor.rnd n c s).natAbs ≤ n.natAbs := by
  unfold Go.Proofs.YtcpjclakdpjjfaaGreatDoor.rnd
  split
  · have : (s - c).toNat = 0 := by omega
    rw [this]; simp
  · exact up_abs (Nat.pow_pos (by decide))
theorem infScale_calls (s : Int) (w : World) (h1 : -100000 ≤ s) (h2 : s ≤ 100000) : Calls Tryz.prog 67 #[.int .i32 s] w fun e w' => e = .returned (.int .i32 (-s)) ∧ w = w' := by
  go_enter Tryz.func67, Tryz.ntmps67
  go_wp2_with fail
  go_ret
  exact ⟨rfl, rfl⟩
theorem DB.powLe {n c r : Int} (h : DB n c) (hr : r.natAbs ≤ n.natAbs) {k : Nat} (hk : k ≤ 400) : (r * (10 ^ k : Nat)).natAbs < Big := by
  refine Nat.lt_of_le_of_lt ?_ (h.pow hk)
  rw [Int.natAbs_mul, Int.natAbs_mul]
  exact Nat.mul_le_mul_right _ hr
def InfAsRet (w : World) (n c s : Int) (e : Ending) (w' : World) : Prop :=
  ∃ b v', e = .returned (.tuple #[.agg #[.pointer (some ⟨b, 0, none⟩)], .bool (cmpZI (dV (rnd n c s) s) (dV n c) == 0)]) ∧ NewRes w (some s) (rnd n c s) b v' w'
set_option maxRecDepth 10000 in
set_option maxHeartbeats 8000000 in
theorem infAsScale_calls (bd : Nat) (c n sc0 : Int) (vd : Value) (w : World) (he : Env w) (hx : IA w bd (some c) n vd) (hb : DB n c) (h1 : -170 ≤ sc0) (h2 : sc0 ≤ 170) :
    Calls Tryz.prog 86 #[.agg #[.pointer (some ⟨bd, 0, none⟩)], .int .i32 sc0] w (InfAsRet w n c (-sc0)) := by
  obtain ⟨s, hs⟩ : ∃ s, s = -sc0 := ⟨_, rfl⟩
  rw [← hs]
  have SCL := Lib.hid (fun w => infScale_calls sc0 w (by omega) (by omega))
  rw [← hs] at SCL
  have hs1 : -170 ≤ s ∧ s ≤ 170 := by omega
  have ma : Mod [] w ((w.alloc (.cells #[.pointer (some ⟨bd, 0, none⟩)] 67)).alloc (.cells #[.pointer none] 67)) := ((Mod.refl [] w).alloc _).alloc _
  have hWs : ((w.alloc (.cells #[.pointer (some ⟨bd, 0, none⟩)] 67)).alloc (.cells #[.pointer none] 67)).heap.size = w.heap.size + 2 := by simp
  have heW := he.mod ma (by simp)
  have nd := new_dec _ heW.big
  rw [hWs] at nd
  have hb0 := Hd.mod (Hd.mod (Hd.new w 67 #[.pointer (some ⟨bd, 0, none⟩)]) ((Mod.refl [] _).alloc (.cells #[.pointer none] 67)) (by simp)) ((Mod.refl [] _).alloc (.cells #[.bool false, .slice none 0 0, .int .i32 0] 123)) (by simp)
  have hb1 := Hd.mod (Hd.new (w.alloc (.cells #[.pointer (some ⟨bd, 0, none⟩)] 67)) 67 #[.pointer none]) ((Mod.refl [] _).alloc (.cells #[.bool false, .slice none 0 0, .int .i32 0] 123)) (by simp)
  rw [show (w.alloc (.cells #[.pointer (some ⟨bd, 0, none⟩)] 67)).heap.size = w.heap.size + 1 by simp] at hb1
  have hxU := nd.apart (hx.mod ma (by simp) (by simp))
  have mU := ma.trans nd.mod
  have heU := he.mod mU (by simp)
  have hlt := hx.lt
  have hvl := hx.nv.zs.lt
  have HX := Lib.hid (And.intro hb (And.intro hs1 (And.intro mU (And.intro heU (And.intro nd.ia (And.intro hxU (And.intro hlt hvl)))))))
  have HB := Lib.hid (And.intro hb0 hb1)
  clear hs h1 h2 hx hb ma hWs heW nd hb0 hb1 hxU mU heU he hlt hvl hs1
  go_enter Tryz.func86, Tryz.ntmps86
  go_wp2_with fail
  generalize ((w.alloc (.cells #[.pointer (some ⟨bd, 0, none⟩)] 67)).alloc (.cells #[.pointer none] 67)).alloc (.cells #[.bool false, .slice none 0 0, .int .i32 0] 123) = U at *
  obtain ⟨hb, ⟨h1, h2⟩, mU, heU, ia, ⟨hne, hsb, hx⟩, hlt, hvl⟩ := HX.out
  have c0 := HB.out.1.cell (i := 0) (v := .pointer (some ⟨bd, 0, none⟩)) rfl
  have RO := Lib.hid (fun k => dec_round (w.heap.size + 2) bd 0 c s 0 n _ vd (U.drewN k) (heU.drewN k) (ia.drewN k) (hx.drewN k) (by have := hb.lo; omega) (by have := hb.hi; omega) (by omega) (by omega) (by have := hb.lo; have := hb.hi; omega) (by have := hb.lo; have := hb.hi; omega) hb.big (fun k hk => hb.pow (by have := hb.lo; omega)) (hb.rnd h2))
  clear hb h1 h2 mU heU ia hne hsb hx hlt hvl
  go_region_law (first
    | (go_simp; go_at_call 67; refine (SCL.out _).mono ?_; rintro e w3 ⟨rfl, rfl⟩)
    | (go_simp; go_at_call 77; refine (roundUp_calls _).mono ?_; rintro e w4 ⟨rfl, rfl⟩)
    | (go_simp; go_at_call 76; refine (RO.out _).mono ?_; rintro e w5 ⟨rfl, v', hr⟩; have HR := Lib.hid hr; clear hr))
  all_goals
    obtain ⟨hb, ⟨h1, h2⟩, mU, heU, ia, ⟨hne, hsb, hx⟩, hlt, hvl⟩ := HX.out
    have hr := HR.out
    have m5 : Mod [w.heap.size + 2] U w5 := ((Mod.refl _ U).drewN _).trans (hr.mod.mono (fun x hx => .inl (by simp [sb] at hx; simp [hx])))
    have hb0 := HB.out.1.mod m5 (by simp)
    have hb1 := HB.out.2.mod m5 (by simp)
    have d0 := hb0.cell (i := 0) (v := .pointer (some ⟨bd, 0, none⟩)) rfl
    have hx5 := hx.mod m5 (by simp [hne]) (fun k hk hm => by have := hvl k hk; rw [List.mem_singleton.1 hm] at this; omega)
    have he5 := heU.mod m5 (by have := ia.lo; simp; omega)
    have hlo := hb.lo
    have hhi := hb.hi
    have CM := Lib.hid (dec_cmp (w.heap.size + 2) bd s c (rnd n c s) n v' vd w5 he5 hr.ia hx5 hne.symm (by omega) (by omega) (by omega) (by omega) (by omega) (by omega) (hb.rnd h2) hb.big (fun k hk => hb.powLe (rndDown (by omega)) (by omega)) (fun k hk => hb.pow (by omega)))
    have hnr : NewRes w (some s) (rnd n c s) (w.heap.size + 2) v' w5 := ⟨hr.ia, mU.step m5 (fun x hx => .inr (by rw [List.mem_singleton.1 hx]; omega)), by omega, fun k hk => (hr.own k hk).elim (fun h => by simp [sb] at h) (fun h => by have := mU.size; simp at h; omega)⟩
    have HN := Lib.hid hnr
    have HB1 := Lib.hid hb1
    clear hb h1 h2 mU heU ia hne hsb hx hlt hvl hr m5 hb0 hb1 hx5 he5 hlo hhi hnr
    go_wp2_with fail
    refine CM.out.mono ?_
    rintro e w6 ⟨rfl, m6⟩
    have hb6 := HB1.out.mod m6 (by simp)
    have e0 := hb6.cell (i := 0) (v := .pointer none) rfl
    have e1 := hb6.free 0
    have e2 : (w6.setCell ⟨w.heap.size + 1, 0, none⟩ (.pointer (some ⟨w.heap.size + 1 + 1, 0, none⟩))).cell? ⟨w.heap.size + 1, 0, none⟩ = some (.pointer (some ⟨w.heap.size + 1 + 1, 0, none⟩)) := (hb6.set 0 (.pointer (some ⟨w.heap.size + 1 + 1, 0, none⟩))).cell (i := 0) rfl
    have HF := Lib.hid (And.intro m6 hb6)
    clear m6 hb6
    go_wp2_with fail
    (try simp only [Exit.inBlock, Exit.then])
    refine bodyPost_ret (by simp [results, Tryz.results86, go_sem, e2]; try rfl) rfl ?_
    have q : NewRes w (some s) (rnd n c s) (w.heap.size + 2) v' (w6.setCell ⟨w.heap.size + 1, 0, none⟩ (.pointer (some ⟨w.heap.size + 2, 0, none⟩))) := by
      have m7 : Mod [w.heap.size + 1] w5 (w6.setCell ⟨w.heap.size + 1, 0, none⟩ (.pointer (some ⟨w.heap.size + 2, 0, none⟩))) := (HF.out.1.mono (by simp)).setCell _ (.inl (by simp))
      have hn := HN.out
      exact ⟨hn.ia.mod m7 (by simp) (fun k hk hm => by
        rw [List.mem_singleton.1 hm] at hk
        exact absurd hk (HB1.out.not_sb hn.ia.nv.zs (by decide))), hn.mod.step m7 (fun x hx => .inr (by rw [List.mem_singleton.1 hx]; omega)), hn.own⟩
    exact ⟨w.heap.size + 2, v', rfl, q⟩
end Go.Proofs.YtcpjclakdpjjfaaGreatDoor
namespace Go.Proofs.YtcpjclakdpjjfaaGreatDoor
open Go.RowKit Wd Dg
/-- The digits (as bytes) of N without factors of 1024, and how many these are. -/
def BnRet (N : Int) (w : World) (e : Ending) (w' : World) : Prop :=
  ∃ (v : Value) (M : Int) (k : Nat), e = .returned (.tuple #[v, .int .i32 k]) ∧ Bn N M k ∧ Bs w' w.heap.size v (Lib.itoa M) ∧ Mod [] w w' ∧ k ≤ 4096
set_option maxRecDepth 10000 in
set_option maxHeartbeats 8000000 in
theorem inf1024_calls (bd : Nat) (c n : Int) (vd : Value) (w : World) (he : Env w) (hx : IA w bd (some c) n vd) (hb : DB n c) (N : Int) (hN : N = rnd n c 0) (hN0 : N ≠ 0) (hN7 : N.natAbs < B ^ 8) (o : Value) (ho : o = .slice none 0 0) :
    Calls Tryz.prog 323 #[.agg #[.pointer (some ⟨bd, 0, none⟩)], o] w (BnRet N w) := by
  obtain ⟨i5, hi5, hz5⟩ := Option.map_eq_some_iff.1 info5
  simp only [Prod.mk.injEq] at hz5
  have INF := Lib.hid (And.intro hi5 hz5)
  clear hi5 hz5
  have ma : Mod [] w (w.alloc (.cells #[.pointer (some ⟨bd, 0, none⟩)] 67)) := (Mod.refl [] w).alloc _
  have hWs : (w.alloc (.cells #[.pointer (some ⟨bd, 0, none⟩)] 67)).heap.size = w.heap.size + 1 := by simp
  have heW := he.mod ma (by simp)
  have nd := new_dec _ heW.big
  rw [hWs] at nd
  have hb0 := Hd.mod (Hd.new w 67 #[.pointer (some ⟨bd, 0, none⟩)]) ((Mod.refl [] _).alloc (.cells #[.bool false, .slice none 0 0, .int .i32 0] 123)) (by simp)
  have hxU := nd.apart (hx.mod ma (by simp) (by simp))
  have mU := ma.trans nd.mod
  have heU := he.mod mU (by simp)
  have HX := Lib.hid (And.intro hb (And.intro mU (And.intro heU (And.intro nd.ia hxU))))
  have HB := Lib.hid hb0
  have HN := Lib.hid (And.intro hN (And.intro hN0 (And.intro hN7 (And.intro he ho))))
  clear hx hb ma hWs heW nd hb0 hxU mU heU he hN hN0 hN7 ho
  go_enter Tryz.func323, Tryz.ntmps323
  go_wp2_with fail
  generalize (w.alloc (.cells #[.pointer (some ⟨bd, 0, none⟩)] 67)).alloc (.cells #[.bool false, .slice none 0 0, .int .i32 0] 123) = U at *
  obtain ⟨hb, mU, heU, ia, hne, hsb, hx⟩ := HX.out
  have c0 := HB.out.cell (i := 0) (v := .pointer (some ⟨bd, 0, none⟩)) rfl
  have hlo := hb.lo
  have hhi := hb.hi
  have RO := Lib.hid (fun k => dec_round (w.heap.size + 1) bd 0 c 0 0 n _ vd (U.drewN k) (heU.drewN k) (ia.drewN k) (hx.drewN k) (by omega) (by omega) (by omega) (by omega) (by omega) (by omega) hb.big (fun k hk => hb.pow (by omega)) (hb.rnd (by omega)))
  rw [← HN.out.1] at RO
  clear hb mU heU ia hne hsb hx hlo hhi
  go_region_law (first
    | (go_simp; go_at_call 77; refine (roundUp_calls _).mono ?_; rintro e w4 ⟨rfl, rfl⟩)
    | (go_simp; go_at_call 76; refine (RO.out _).mono ?_; rintro e w5 ⟨rfl, v', hr⟩; have HR := Lib.hid hr; clear hr))
  all_goals
    obtain ⟨hb, mU, heU, ia, hne, hsb, hx⟩ := HX.out
    have hr := HR.out
    have hge : w.heap.size ≤ w.heap.size + 1 := by omega
    have m5 : Mod [] w w5 := (mU.drewN _).step hr.mod (fun x hx => .inr (by simp [sb] at hx; omega))
    have he5 : Env w5 := heU.mod (((Mod.refl _ U).drewN _).trans hr.mod) (by have := ia.lo; simp [sb]; omega)
    have hlt5 := hr.ia.lt
    have NI := Lib.hid (newInt_calls 1024 w5 he5.big (by decide) (by decide))
    have HR2 := Lib.hid (And.intro hr (And.intro m5 (And.intro he5 (And.intro mU.size hge))))
    clear hb mU heU ia hne hsb hx hr m5 he5 hlt5 hge
    go_wp2_with fail
    refine (dec_unscaledBig (w.heap.size + 1) _).mono ?_
    rintro e w6 ⟨rfl, rfl⟩
    go_wp2_with fail
    refine NI.out.mono ?_
    rintro e w6 ⟨bf, vf, rfl, hnr⟩
    have hap := hnr.apart HR2.out.1.ia
    have he6 := hnr.env HR2.out.2.2.1
    have RM := Lib.hid (removeBig_calls w N 1024 (w.heap.size + 1) bf (some 0) v' vf w6 he6 (HR2.out.2.1.trans hnr.mod) hap.2.2 hnr.ia hap.1 (fun j hj hj2 => hap.2.1 j hj2 hj) (by decide) (by rw [B_eq]; decide +kernel) (Nat.lt_trans HN.out.2.2.1 (by rw [Big_eq]; exact Nat.pow_lt_pow_right B_one (by omega))) HR2.out.2.2.2.2 (fun j hj => (HR2.out.1.own j hj).elim (fun h => by simp [sb] at h) (fun h => by have := HR2.out.2.2.2.1; simp at h; omega)))
    have HE6 := Lib.hid (HR2.out.2.1.trans hnr.mod)
    clear hap he6 hnr
    go_wp2_with fail
    refine RM.out.mono ?_
    rintro e w7 ⟨b, k, v2, s2, n1, rfl, hn, hn1, hn2, -, hk⟩
    have hnN : N = n1 * ((1024 ^ k : Nat) : Int) := hn1
    have hn18 : n1.natAbs < B ^ 8 := by
      have h1 : N.natAbs = n1.natAbs * 1024 ^ k := by rw [hnN, Int.natAbs_mul, Int.natAbs_natCast]
      have h2 : n1.natAbs ≤ n1.natAbs * 1024 ^ k := Nat.le_mul_of_pos_right _ (Nat.pow_pos (by decide))
      have h3 := HN.out.2.2.1
      omega
    have hbn : Bn N n1 k := ⟨by rw [hnN]; push_cast; rfl, hn2 HN.out.2.1⟩
    have hew : Env w7 := hn.env HN.out.2.2.2.1
    have ST := Lib.hid (int_string b s2 n1 v2 w7 hew hn.ia hn18)
    have hlen := itoa_len n1 hn18
    have HE := Lib.hid (And.intro hbn (And.intro hn (And.intro hlen (Nat.le_of_lt hk))))
    clear hbn hn hlen hk hew hn18 hnN hn1 hn2
    go_wp2_with fail
    refine ST.out.mono ?_
    rintro e w8 ⟨rfl, hm8⟩
    have HM8 := Lib.hid (HE.out.2.1.mod.trans hm8)
    have hown : w8.ownsRow w.heap.size 5 1 o 0 [] := by rw [HN.out.2.2.2.2]; exact World.ownsRow_nil w8 w.heap.size 5 1
    have HO := Lib.hid hown
    clear hm8 hown ST
    go_wp2_with (at_builtin; refine Lib.wpList_append_own_string _ rfl _ _ 79 9 rfl w.heap.size 5 i5 Tryz.underlying79 Tryz.underlying9 INF.out.1 INF.out.2.1 INF.out.2.2.1 INF.out.2.2.2 o 0 [] rfl HO.out ⟨(Lib.itoa n1).toArray⟩ rfl (by have := HE.out.2.2.1; show 0 + (Lib.itoa n1).toArray.size ≤ maxLen; unfold maxLen; simp; omega) (by have := HE.out.2.2.1; show 0 + (Lib.itoa n1).toArray.size ≤ _; simp; omega) HM8.out.size ?_; intro v5 w9 hown hgr hnil)
    have HV := Lib.hid (And.intro hown hgr)
    clear hown hgr hnil
    go_wp2_with fail
    go_ret2
    refine ⟨v5, n1, k, rfl, HE.out.1, ?_, HM8.out.trans (Mod.grown HV.out.2 (fun q hq => by rw [HN.out.2.2.2.2] at hq; cases hq)), HE.out.2.2.2⟩
    have h1 := HV.out.1
    have e1 : 0 + (⟨(Lib.itoa n1).toArray⟩ : ByteArray).size = (Lib.itoa n1).length := by
      show 0 + (Lib.itoa n1).toArray.size = _
      simp
    rw [e1] at h1
    exact h1
set_option maxRecDepth 10000 in
set_option maxHeartbeats 1600000 in
theorem amt1024 (v : Int) (s : Nat) (N : Int) (hN : N = v * ((10 ^ s : Nat) : Int)) (w : World) (he : Env2 w) (hv : i64 v) (h0 : N ≠ 0) (hmin : N ≠ -9223372036854775808) (hs : s ≤ 100) (o : Value) (ho : o = .slice none 0 0) :
    Calls Tryz.prog 321 #[amt v s, o] w (BnRet N w) := by
  have ma : Mod [] w (w.alloc (.cells #[.int .i64 v, .int .i32 s] 64)) := (Mod.refl [] w).alloc _
  have he1 := he.new ma
  have hbx := Hd.new w 64 #[.int .i64 v, .int .i32 s]
  have A0 := Lib.hid (amtScaled0 v s (w.alloc (.cells #[.int .i64 v, .int .i32 s] 64)) hv (by omega) (by omega))
  have FB := Lib.hid (fun (w1 : World) (m : Mod [] (w.alloc (.cells #[.int .i64 v, .int .i32 s] 64)) w1) => amtAsDec v s w1 (he1.new m).env.big hv (by omega) (by omega))
  have hdb : DB v (-(s : Int)) := ⟨Nat.lt_of_lt_of_le (show v.natAbs < B by unfold i64 at hv; rw [B_eq]; omega) (by rw [show B ^ 12 = B * B ^ 11 by rw [Nat.pow_succ, Nat.mul_comm]]; exact Nat.le_mul_of_pos_right _ (Nat.pow_pos B_pos)), by omega, by omega⟩
  have hrn : N = rnd v (-(s : Int)) 0 := by
    unfold rnd
    rw [if_pos (by omega), hN]
    congr 3
    omega
  have hB8 : N.natAbs < B ^ 8 := by
    rw [hN, Int.natAbs_mul, Int.natAbs_natCast]
    have h1 : v.natAbs < B := by unfold i64 at hv; rw [B_eq]; omega
    have h2 : 10 ^ s ≤ B ^ 7 := Nat.le_trans (Nat.pow_le_pow_right (by decide) hs) (by rw [B_eq]; decide +kernel)
    have h3 : v.natAbs * 10 ^ s < B * B ^ 7 := Nat.lt_of_lt_of_le (Nat.mul_lt_mul_of_pos_right h1 (Nat.pow_pos (by decide))) (Nat.mul_le_mul_left _ h2)
    rw [Nat.mul_comm B, ← Nat.pow_succ] at h3
    exact h3
  have FC := Lib.hid (fun (w1 w2 : World) (b : Nat) (u : Value) (m : Mod [] w w1) (k : NewRes w1 (some (-(s : Int))) v b u w2) => inf1024_calls b (-(s : Int)) v u w2 (k.env (he.new m).env) k.ia hdb N hrn h0 hB8 o ho)
  have H0 := Lib.hid (And.intro he (And.intro ma (And.intro hbx (And.intro hN (And.intro h0 (And.intro hmin ho))))))
  clear he hv h0 ho ma he1 hbx hdb hrn hB8 hN hmin hs
  unfold amt at *
  go_enter Tryz.func321, Tryz.ntmps321
  go_wp2_with fail
  refine A0.out.mono ?_
  rintro e w2 ⟨m2, cc, ok, rfl, hc64, hok⟩
  have hb := H0.out.2.2.1.mod m2 (by simp)
  have c0 := hb.cell (i := 0) (v := .int .i64 v) rfl
  have c1 := hb.cell (i := 1) (v := .int .i32 s) rfl
  have M2 := Lib.hid (And.intro m2 (And.intro (H0.out.2.1.trans m2) hc64))
  cases ok
  · have F1 := Lib.hid (FB.out w2 m2)
    clear hok hb m2 hc64
    go_wp2_with fail
    refine F1.out.mono ?_
    rintro e w3 ⟨b, u, rfl, hnr⟩
    have F2 := Lib.hid (FC.out w2 w3 b u M2.out.2.1 hnr)
    have M3 := Lib.hid (M2.out.2.1.trans hnr.mod)
    clear hnr
    go_wp2_with fail
    refine F2.out.mono ?_
    rintro e w4 ⟨v5, M, k, rfl, hcn, hbs, hm4, hex⟩
    have HF := Lib.hid (And.intro hcn (And.intro hbs (And.intro hm4 hex)))
    clear hcn hbs hm4 hex
    go_wp2_with fail
    go_ret2
    obtain ⟨k1, k2, k3, k4⟩ := HF.out
    exact ⟨v5, M, k, rfl, k1, k2.base M3.out.size, M3.out.trans k3, k4⟩
  · have hcN : cc = N := by
      rcases hok rfl with ⟨n, h1, h2⟩ | ⟨n, h1, h2, h3⟩
      · have : n = s := by omega
        subst this
        rw [h2]; exact H0.out.2.2.2.1.symm
      · omega
    subst hcN
    have RF := Lib.hid (rm1024_calls cc w2 hc64 H0.out.2.2.2.2.2.1)
    clear hok hb m2 hc64
    go_wp2_with fail
    refine RF.out.mono ?_
    rintro e w3 ⟨r, t, rfl, rfl, hr, h10, ht, hr64⟩
    have AP := Lib.hid (appendInt_calls r w2 (H0.out.1.new M2.out.2.1) hr64 o H0.out.2.2.2.2.2.2)
    have hbn : Bn cc r t := ⟨by rw [hr, Int.natCast_pow]; rfl, h10 H0.out.2.2.2.2.1⟩
    have HE := Lib.hid (And.intro hbn ht)
    clear hr h10 ht hr64 hbn
    go_wp2_with fail
    refine AP.out.mono ?_
    rintro e w4 ⟨v5, rfl, hbs, hm3⟩
    have HB := Lib.hid (And.intro hbs hm3)
    clear hbs hm3
    go_wp2_with fail
    go_ret2
    exact ⟨v5, r, t, rfl, HE.out.1, HB.out.1.base M2.out.2.1.size, M2.out.2.1.trans HB.out.2, Nat.le_trans HE.out.2 (by decide)⟩
end Go.Proofs.YtcpjclakdpjjfaaGreatDoor
namespace Go.Proofs.YtcpjclakdpjjfaaGreatDoor
open Go.RowKit Wd Dg
/-- What a quantity's amounts mean: V; bl: the blocks of its decimal. -/
def QOk (w : World) (v s : Int) (d : Value) (V : Int) (bl : List Nat) : Prop :=
  (d = .pointer none ∧ bl = [] ∧ i64 v ∧ -100 ≤ s ∧ s ≤ 100 ∧ V = v * sc s) ∨
  ∃ b c n u, d = .pointer (some ⟨b, 0, none⟩) ∧ bl = b :: sb u ∧ IA w b (some c) n u ∧ DB n c ∧ V = dV n c
theorem QOk.mod {S : List Nat} {w w' : World} {v s : Int} {d : Value} {V : Int} {bl : List Nat} (h : QOk w v s d V bl) (m : Mod S w w') (hS : ∀ k, k ∈ bl → k ∉ S) : QOk w' v s d V bl := by
  rcases h with h | ⟨b, c, n, u, h1, h2, h3, h4, h5⟩
  · exact .inl h
  · subst h2
    exact .inr ⟨b, c, n, u, h1, rfl, h3.mod m (hS b (by simp)) (fun k hk => hS k (by simp [hk])), h4, h5⟩
theorem QOk.lt {w : World} {v s : Int} {d : Value} {V : Int} {bl : List Nat} (h : QOk w v s d V bl) : ∀ k, k ∈ bl → 19 ≤ k ∧ k < w.heap.size := by
  rcases h with ⟨-, rfl, -⟩ | ⟨b, c, n, u, h1, rfl, h3, h4, h5⟩
  · simp
  · intro k hk
    rcases List.mem_cons.1 hk with rfl | hk
    · exact ⟨h3.lo, h3.lt⟩
    · exact ⟨h3.vlo k hk, h3.nv.zs.lt k hk⟩
/-- A quantity in memory. -/
structure Qy (w : World) (bq : Nat) (V : Int) (f : Value) (bl : List Nat) : Prop where
  q : ∃ v s d st, Hd w bq 70 (qc v s d st f) ∧ QOk w v s d V bl
  lo : 19 ≤ bq
theorem Qy.mod {S : List Nat} {w w' : World} {bq : Nat} {V : Int} {f : Value} {bl : List Nat} (h : Qy w bq V f bl) (m : Mod S w w') (h1 : bq ∉ S) (hS : ∀ k, k ∈ bl → k ∉ S) : Qy w' bq V f bl := by
  obtain ⟨v, s, d, st, h2, h3⟩ := h.q
  exact ⟨⟨v, s, d, st, h2.mod m h1, h3.mod m hS⟩, h.lo⟩
theorem sgnI_mul {v : Int} {p : Nat} (hp : 0 < p) : sgnI (v * p) = sgnI v := by
  have hp' : (0 : Int) < p := by omega
  rcases Int.lt_trichotomy v 0 with h | h | h
  · rw [sgnI_neg h, sgnI_neg (Int.mul_neg_of_neg_of_pos h hp')]
  · rw [h]; simp
  · rw [sgnI_pos h, sgnI_pos (Int.mul_pos h hp')]
theorem sgnI_eq0 (v : Int) : (sgnI v == 0) = decide (v = 0) := by
  rcases Int.lt_trichotomy v 0 with h | h | h
  · rw [sgnI_neg h]; simp; omega
  · rw [h]; rfl
  · rw [sgnI_pos h]; simp; omega
theorem dptr_nil (b : Nat) (w : World) : (binOp .neq 65 (.pointer (some ⟨b, 0, none⟩)) (.pointer none)).run Tryz.prog w = .ok (.bool true) w := by kernel_rfl
set_option maxHeartbeats 800000 in
theorem q_isZero (bq : Nat) (V : Int) (f : Value) (bl : List Nat) (w : World) (h : Qy w bq V f bl) : Calls Tryz.prog 48 #[.pointer (some ⟨bq, 0, none⟩)] w fun e w' => e = .returned (.bool (decide (V = 0))) ∧ w = w' := by
  obtain ⟨v, s, d, st, hd, hq⟩ := h.q
  have c0 := hd.cell (i := 0) (v := .int .i64 v) rfl
  have c2 := hd.cell (i := 2) (v := d) rfl
  rcases hq with ⟨rfl, -, -, -, -, hV⟩ | ⟨b, c, n, u, rfl, -, ia, -, hV⟩
  · have HV := Lib.hid (show (v == 0) = decide (V = 0) by rw [← sgnI_eq0 V, hV, sgnI_mul (sc_pos s), sgnI_eq0 v]; by_cases hh : v = 0 <;> simp [hh])
    clear h hd hV
    go_enter Tryz.func48, Tryz.ntmps48
    go_wp2_with fail
    go_ret
    exact ⟨by rw [← HV.out]; rfl, rfl⟩
  · have HV := Lib.hid (show (sgnI n == 0) = decide (V = 0) by rw [sgnI_eq0 n, ← sgnI_eq0 n, ← sgnI_eq0 V, hV]; unfold dV; rw [sgnI_mul (sc_pos _)])
    have DS := Lib.hid (dec_sign b (some c) n u w ia)
    have p1 := dptr_nil b
    clear h hd hV ia
    go_enter Tryz.func48, Tryz.ntmps48
    go_wp2_with fail
    refine DS.out.mono ?_
    rintro e w1 ⟨rfl, rfl⟩
    go_wp2_with fail
    go_ret
    exact ⟨by rw [← HV.out]; rfl, rfl⟩
/-- A quantity with its decimal, behind AsDec or ToDec. -/
structure QDec (w : World) (bq : Nat) (V : Int) (f : Value) (bl : List Nat) (b : Nat) (c n : Int) (u : Value) (w' : World) : Prop where
  hd : ∃ v s st, Hd w' bq 70 (qc v s (.pointer (some ⟨b, 0, none⟩)) st f)
  ia : IA w' b (some c) n u
  db : DB n c
  v : V = dV n c
  mod : Mod [bq] w w'
  own : ∀ k, k ∈ b :: sb u → k ∈ bl ∨ w.heap.size ≤ k
theorem i64_B6 {v : Int} (hv : i64 v) : v.natAbs < B ^ 12 := by
  unfold i64 at hv
  have h : (9223372036854775808 : Nat) < B ^ 12 := by rw [B_eq]; decide +kernel
  omega
/-- The decimal laid into the quantity, the amount struck. -/
theorem QDec.lay {w w1 : World} {bq : Nat} {v s V : Int} {st f : Value} {bl : List Nat} {b : Nat} {u : Value} (hd : Hd w bq 70 (qc v s (.pointer none) st f)) (hv : i64 v) (h1 : -100 ≤ s) (h2 : s ≤ 100) (hV : V = v * sc s) (hr : NewRes w (some (-s)) v b u w1) :
    QDec w bq V f bl b (-s) v u (((w1.setCell ⟨bq, 2, none⟩ (.pointer (some ⟨b, 0, none⟩))).setCell ⟨bq, 0, none⟩ (.int .i64 0)).setCell ⟨bq, 1, none⟩ (.int .i32 0)) := by
  have hd1 := hd.mod hr.mod (by simp)
  have hlt := hd.lt
  have m : Mod [bq] w1 (((w1.setCell ⟨bq, 2, none⟩ (.pointer (some ⟨b, 0, none⟩))).setCell ⟨bq, 0, none⟩ (.int .i64 0)).setCell ⟨bq, 1, none⟩ (.int .i32 0)) :=
    (((Mod.refl [bq] w1).setCell _ (.inl (by simp))).setCell _ (.inl (by simp))).setCell _ (.inl (by simp))
  refine ⟨⟨0, 0, st, ((hd1.set 2 (.pointer (some ⟨b, 0, none⟩))).set 0 (.int .i64 0)).set 1 (.int .i32 0)⟩, hr.ia.mod m (by have := hr.own.1; simp; omega) (fun k hk => by have := hr.own.2 k hk; simp; omega), ⟨i64_B6 hv, by omega, by omega⟩, ?_, (hr.mod.mono (by simp)).trans m, fun k hk => .inr ?_⟩
  · rw [hV]; unfold dV; rw [Int.neg_neg]
  · rcases List.mem_cons.1 hk with rfl | hk
    · exact hr.own.1
    · exact hr.own.2 k hk
end Go.Proofs.YtcpjclakdpjjfaaGreatDoor
