/- The suffixer's maps: a suffix is added (resource/suffix.go: addSuffix). The suffixer's maps: the first suffix is added (resource/suffix.go: addSuffix). The suffixer as two tables (resource/suffix.go: newSuffixer). -/
import Derived.Test.YtcpjclakdpjjfaaGreatDoorW20
import Derived.Test.YtcpjclakdpjjfaaGreatDoorW29
namespace Go.Proofs.YtcpjclakdpjjfaaGreatDoor
open Go.RowKit Wd
theorem map_eq158 (r : Nat) (w : World) : (binOp .eql 158 (.map (some r)) (.map none)).run Tryz.prog w = .ok (.bool false) w := by kernel_rfl
theorem map_eq159 (r : Nat) (w : World) : (binOp .eql 159 (.map (some r)) (.map none)).run Tryz.prog w = .ok (.bool false) w := by kernel_rfl
theorem map_eq160 (r : Nat) (w : World) : (binOp .eql 160 (.map (some r)) (.map none)).run Tryz.prog w = .ok (.bool false) w := by kernel_rfl
theorem map_nil158 (w : World) : (binOp .eql 158 (.map none) (.map none)).run Tryz.prog w = .ok (.bool true) w := by kernel_rfl
theorem map_nil159 (w : World) : (binOp .eql 159 (.map none) (.map none)).run Tryz.prog w = .ok (.bool true) w := by kernel_rfl
theorem map_nil160 (w : World) : (binOp .eql 160 (.map none) (.map none)).run Tryz.prog w = .ok (.bool true) w := by kernel_rfl
theorem Hd.ne_map {w : World} {b r : Nat} {t kt : TypeId} {cs : Array Value} {f : Value → Option Value} (h : Hd w b t cs) (m : MB w kt r f) : b ≠ r := by
  rintro rfl
  obtain ⟨es, c, e⟩ := m.isMap
  have := h.symm.trans e
  cases this
def pr (p : Int × Int) : Value := .agg #[.int .i32 p.1, .int .i32 p.2]
set_option maxRecDepth 10000 in
theorem add_more (b o : Nat) (s : ByteArray) (x y : Int) (kx : ∃ l, keyOf Tryz.prog 167 (.agg #[.int .i32 x, .int .i32 y]) = some l) (hs : s.size ≤ maxLen) (r1 r2 r3 : Nat) (f1 f2 f3 : Value → Option Value) (w : World) (cs : Array Value) (hd : Hd w b 164 cs) (h1 : cs[o]? = some (.map (some r1))) (h2 : cs[o + 1]? = some (.map (some r2))) (h3 : cs[o + 2]? = some (.map (some r3))) (m1 : MB w 111 r1 f1) (m2 : MB w 167 r2 f2) (m3 : MB w 167 r3 f3)
    (d1 : r2 ≠ r1) (d2 : r3 ≠ r1) (d3 : r3 ≠ r2) :
    Calls Tryz.prog 101 #[.pointer (some ⟨b, o, none⟩), .string s, .agg #[.int .i32 x, .int .i32 y]] w fun e w' => e = .returned (.tuple #[]) ∧ Mod [r1, r2, r3] w w' ∧ MB w' 111 r1 (upd f1 (.string s) (.agg #[.int .i32 x, .int .i32 y])) ∧ (∃ f, MB w' 167 r2 f) ∧ ∃ V, MB w' 167 r3 (upd f3 (.agg #[.int .i32 x, .int .i32 y]) V) ∧ Rb w' w.heap.size V s.data.toList := by
  obtain ⟨kl, hkl⟩ := kx
  obtain ⟨ks, hks⟩ := key_text hs
  have hn := Hd.new w 167 #[.int .i32 x, .int .i32 y]
  have a0 : Mod [] w (w.alloc (.cells #[.int .i32 x, .int .i32 y] 167)) := (Mod.refl [] w).alloc _
  have hd' := hd.mod a0 (by simp)
  have hlt := hd.lt
  have H := Lib.hid (And.intro hn (And.intro a0 (And.intro hd' (And.intro hlt (And.intro m1 (And.intro m2 (And.intro m3 (And.intro d1 (And.intro d2 (And.intro d3 (And.intro hkl (And.intro hks hs))))))))))))
  clear hn a0 hd' hd hlt m1 m2 m3 d1 d2 d3 hkl hks hs
  go_enter Tryz.func101, Tryz.ntmps101
  go_upto_region 1 with fail
  obtain ⟨hn, a0, hd', hlt, m1, m2, m3, d1, d2, d3, hkl, hks, hs⟩ := H.out
  clear H
  have n0 := hn.cell (i := 0) (v := .int .i32 x) rfl
  have n1 := hn.cell (i := 1) (v := .int .i32 y) rfl
  have hbp : b ≠ w.heap.size := by omega
  generalize hW : w.heap.size = bp at *
  generalize w.alloc (.cells #[.int .i32 x, .int .i32 y] 167) = W at *
  have c1 := hd'.cell h1
  have c2 := hd'.cell h2
  have c3 := hd'.cell h3
  have e1 := map_eq158 r1
  have e2 := map_eq159 r2
  have e3 := map_eq160 r3
  replace m1 := m1.mod a0 (by simp)
  replace m2 := m2.mod a0 (by simp)
  replace m3 := m3.mod a0 (by simp)
  obtain ⟨u1, u2, u3⟩ := (m1.mod ((Mod.refl [] W).drewN 1) (by simp)).put Tryz.underlying158 kl111 (.agg #[.int .i32 x, .int .i32 y]) hks
  have H := Lib.hid (And.intro hn (And.intro a0 (And.intro hd' (And.intro hlt (And.intro m1 (And.intro m2 (And.intro m3 (And.intro d1 (And.intro d2 (And.intro d3 (And.intro hkl (And.intro hks (And.intro hs (And.intro u2 (And.intro u3 hW)))))))))))))))
  clear hn a0 hd' hlt m1 m2 m3 d1 d2 d3 hkl hks hs u2 u3 hW
  go_upto_region 7 with fail
  go_still_tail 6, (by kernel_rfl)
  change wpList _ _ _ _ _ (W.drewN 1)
  go_wp2_with fail
  obtain ⟨hn, a0, hd', hlt, m1, m2, m3, d1, d2, d3, hkl, hks, hs, u2, u3, hW⟩ := H.out
  clear u1 n0 n1 c1 c2 c3 e1 e2 e3 H
  replace u3 := ((Mod.refl [r1] W).drewN 1).trans u3
  have q1 : b ∉ [r1] := by simpa using hd'.ne_map m1
  have q2 : bp ∉ [r1] := by simpa using hn.ne_map m1
  have q3 : b ∉ [r2] := by simpa using hd'.ne_map m2
  have q4 : bp ∉ [r2] := by simpa using hn.ne_map m2
  generalize mupw 158 r1 (.string s) (.agg #[.int .i32 x, .int .i32 y]) (W.drewN 1) = W1 at *
  replace hn := hn.mod u3 q2
  replace hd' := hd'.mod u3 q1
  replace m2 := m2.mod u3 (by simpa using d1)
  replace m3 := m3.mod u3 (by simpa using d2)
  have n0 := hn.cell (i := 0) (v := .int .i32 x) rfl
  have n1 := hn.cell (i := 1) (v := .int .i32 y) rfl
  have c2 := hd'.cell h2
  obtain ⟨v1, v2, v3⟩ := (m2.mod ((Mod.refl [] W1).drewN 1) (by simp)).put Tryz.underlying159 kl167 (.string s) hkl
  have H := Lib.hid (And.intro hn (And.intro a0 (And.intro hd' (And.intro hlt (And.intro m2 (And.intro m3 (And.intro d1 (And.intro d2 (And.intro d3 (And.intro hkl (And.intro hs (And.intro u2 (And.intro u3 (And.intro v2 (And.intro v3 (And.intro hW (And.intro q3 q4)))))))))))))))))
  clear hn a0 hd' hlt m1 m2 m3 d1 d2 d3 hkl hks hs u2 u3 v2 v3 q1 q2 q3 q4 hW
  go_still_tail 6, (by kernel_rfl)
  change wpList _ _ _ _ _ (W1.drewN 1)
  go_wp2_with fail
  obtain ⟨hn, a0, hd', hlt, m2, m3, d1, d2, d3, hkl, hs, u2, u3, v2, v3, hW, q3, q4⟩ := H.out
  clear v1 n0 n1 c2 H
  replace v3 := ((Mod.refl [r2] W1).drewN 1).trans v3
  generalize mupw 159 r2 (.agg #[.int .i32 x, .int .i32 y]) (.string s) (W1.drewN 1) = W2 at *
  have q1 : r1 ∉ [r2] := by simpa using Ne.symm d1
  replace hn := hn.mod v3 q4
  replace hd' := hd'.mod v3 q3
  replace u2 := u2.mod v3 q1
  replace m3 := m3.mod v3 (by simpa using d3)
  have c3 := hd'.cell h3
  have n0 := hn.cell (i := 0) (v := .int .i32 x) rfl
  have n1 := hn.cell (i := 1) (v := .int .i32 y) rfl
  have bc := bytes_conv 111 Tryz.underlying111 s
  have mB : Mod [] W2 (Lib.bytesWorld W2.drew 5 s) := ((Mod.refl [] W2).drew).trans (bytes_mod s _)
  have rB := bytes_rb s (grownCap W2.drew s.size 0 5) W2.drew
  have hnB := hn.mod mB (by simp)
  have hdB := hd'.mod mB (by simp)
  have k0 := hnB.cell (i := 0) (v := .int .i32 x) rfl
  have k1 := hnB.cell (i := 1) (v := .int .i32 y) rfl
  have k2 := hdB.cell h3
  obtain ⟨z1, z2, z3⟩ := (m3.mod mB (by simp)).put Tryz.underlying160 kl167 (.slice (some ⟨W2.heap.size, 0, none⟩) s.size (grownCap W2.drew s.size 0 5)) hkl
  have H := Lib.hid (And.intro hn (And.intro a0 (And.intro hd' (And.intro hlt (And.intro m3 (And.intro d1 (And.intro d2 (And.intro d3 (And.intro hkl (And.intro hs (And.intro u2 (And.intro u3 (And.intro v2 (And.intro v3 (And.intro hW (And.intro mB (And.intro rB (And.intro z2 z3))))))))))))))))))
  clear hn a0 hd' hlt m3 d1 d2 d3 hkl hs u2 u3 v2 v3 q1 q3 q4 hW mB rB z2 z3 hnB hdB
  clear h1 h2 h3
  go_region_law (first | fail)
  all_goals
    go_wp2_with fail
    refine bodyPost_end (results_none rfl _ _ _) rfl ?_
    obtain ⟨hn, a0, hd', hlt, m3, d1, d2, d3, hkl, hs, u2, u3, v2, v3, hW, mB, rB, z2, z3⟩ := H.out
    have hm : MB (Lib.bytesWorld W2.drew 5 s) 167 r3 f3 := m3.mod mB (by simp)
    have n1 : r1 ∉ [r3] := by simpa using Ne.symm d2
    have n2 : r2 ∉ [r3] := by simpa using Ne.symm d3
    have M0 : Mod [r1, r2, r3] w W := a0.mono (by simp)
    have M1 := M0.trans (u3.mono (fun x hx => .inl (by simp at hx; simp [hx])))
    have M2 := M1.trans (v3.mono (fun x hx => .inl (by simp at hx; simp [hx])))
    have M3 := M2.trans (mB.mono (by simp))
    have M4 := M3.trans (z3.mono (fun x hx => .inl (by simp at hx; simp [hx])))
    refine ⟨rfl, M4, (u2.mod mB (by simp)).mod z3 n1, ⟨_, (v2.mod mB (by simp)).mod z3 n2⟩, _, z2, ?_⟩
    refine (rB.mod z3 (fun k hk => .inr ?_)).base M2.size
    rw [List.mem_singleton.1 hk]
    exact hm.isMap
end Go.Proofs.YtcpjclakdpjjfaaGreatDoor
namespace Go.Proofs.YtcpjclakdpjjfaaGreatDoor
open Go.RowKit Wd
theorem mk158 (w : World) : (Instr.makeMap 158 none).run Tryz.prog w = .ok (.map (some w.heap.size)) (w.alloc (.map #[] 0)) := by kernel_rfl
theorem mk159 (w : World) : (Instr.makeMap 159 none).run Tryz.prog w = .ok (.map (some w.heap.size)) (w.alloc (.map #[] 0)) := by kernel_rfl
theorem mk160 (w : World) : (Instr.makeMap 160 none).run Tryz.prog w = .ok (.map (some w.heap.size)) (w.alloc (.map #[] 0)) := by kernel_rfl
theorem stage {W : World} {b : Nat} {cs : Array Value} (hd : Hd W b 164 cs) (j : Nat) :
    Hd ((W.alloc (.map #[] 0)).setCell ⟨b, j, none⟩ (.map (some W.heap.size))) b 164 (cs.setIfInBounds j (.map (some W.heap.size))) ∧ (∀ kt, MB ((W.alloc (.map #[] 0)).setCell ⟨b, j, none⟩ (.map (some W.heap.size))) kt W.heap.size (fun _ => none)) ∧ Mod [b] W ((W.alloc (.map #[] 0)).setCell ⟨b, j, none⟩ (.map (some W.heap.size))) ∧ W.heap.size < ((W.alloc (.map #[] 0)).setCell ⟨b, j, none⟩ (.map (some W.heap.size))).heap.size := by
  have hlt := hd.lt
  have m : Mod [b] (W.alloc (.map #[] 0)) ((W.alloc (.map #[] 0)).setCell ⟨b, j, none⟩ (.map (some W.heap.size))) := (Mod.refl [b] _).setCell _ (.inl (by simp))
  have mb : ∀ kt, MB ((W.alloc (.map #[] 0)).setCell ⟨b, j, none⟩ (.map (some W.heap.size))) kt W.heap.size (fun _ => none) := fun kt => (MB.new W kt).mod m (by simp; omega)
  exact ⟨(hd.mod ((Mod.refl [] W).alloc _) (by simp)).set j _, mb, ((Mod.refl [b] W).alloc _).trans m, (mb 0).lt⟩
set_option maxRecDepth 10000 in
theorem add_first (b o : Nat) (s : ByteArray) (x y : Int) (kx : ∃ l, keyOf Tryz.prog 167 (.agg #[.int .i32 x, .int .i32 y]) = some l) (hs : s.size ≤ maxLen) (w : World) (cs : Array Value) (hd : Hd w b 164 cs) (h1 : cs[o]? = some (.map none)) (h2 : cs[o + 1]? = some (.map none)) (h3 : cs[o + 2]? = some (.map none)) :
    Calls Tryz.prog 101 #[.pointer (some ⟨b, o, none⟩), .string s, .agg #[.int .i32 x, .int .i32 y]] w fun e w' => e = .returned (.tuple #[]) ∧ ∃ r1 r2 r3, Mod [b] w w' ∧ w.heap.size ≤ r1 ∧ w.heap.size ≤ r2 ∧ w.heap.size ≤ r3 ∧ r2 ≠ r1 ∧ r3 ≠ r1 ∧ r3 ≠ r2 ∧ Hd w' b 164 (((cs.setIfInBounds o (.map (some r1))).setIfInBounds (o + 1) (.map (some r2))).setIfInBounds (o + 2) (.map (some r3))) ∧
      MB w' 111 r1 (upd (fun _ => none) (.string s) (.agg #[.int .i32 x, .int .i32 y])) ∧ (∃ f, MB w' 167 r2 f) ∧ ∃ V, MB w' 167 r3 (upd (fun _ => none) (.agg #[.int .i32 x, .int .i32 y]) V) ∧ Rb w' w.heap.size V s.data.toList := by
  obtain ⟨kl, hkl⟩ := kx
  obtain ⟨ks, hks⟩ := key_text hs
  have hn := Hd.new w 167 #[.int .i32 x, .int .i32 y]
  have a0 : Mod [] w (w.alloc (.cells #[.int .i32 x, .int .i32 y] 167)) := (Mod.refl [] w).alloc _
  have hd' := hd.mod a0 (by simp)
  have hlt := hd.lt
  have H := Lib.hid (And.intro hn (And.intro a0 (And.intro hd' (And.intro hlt (And.intro hkl (And.intro hks hs))))))
  clear hn a0 hd' hd hlt hkl hks hs
  go_enter Tryz.func101, Tryz.ntmps101
  go_upto_region 1 with fail
  obtain ⟨hn, a0, hd', hlt, hkl, hks, hs⟩ := H.out
  clear H
  have hbp : b ≠ w.heap.size := by omega
  generalize hW : w.heap.size = bp at *
  generalize w.alloc (.cells #[.int .i32 x, .int .i32 y] 167) = W at *
  have e1 := map_nil158
  have e2 := map_nil159
  have e3 := map_nil160
  have g1 := mk158
  have g2 := mk159
  have g3 := mk160
  have hos : o + 2 < cs.size := (Array.getElem?_eq_some_iff.1 h3).1
  have c1 := hd'.cell h1
  have fb := (hd'.mod ((Mod.refl [] W).alloc (.map #[] 0)) (by simp)).free
  have cb := (hd'.mod ((Mod.refl [] W).alloc (.map #[] 0)) (by simp)).cell h1
  obtain ⟨s1, s2, s3, s4⟩ := stage hd' o
  have H := Lib.hid (And.intro hn (And.intro a0 (And.intro hlt (And.intro hkl (And.intro hks (And.intro hs (And.intro hW (And.intro s1 (And.intro s2 (And.intro s3 s4))))))))))
  clear hn a0 hd' hlt hkl hks hs hW s1 s2 s3 s4
  go_upto_region 3 with fail
  obtain ⟨hn, a0, hlt, hkl, hks, hs, hW, s1, s2, s3, s4⟩ := H.out
  clear c1 cb fb H
  have hr1 : bp ≤ W.heap.size := Nat.le_of_lt hn.lt
  have hnr1 : bp ≠ W.heap.size := Nat.ne_of_lt hn.lt
  replace hn := hn.mod s3 (by simp; omega)
  generalize (W.alloc (.map #[] 0)).setCell ⟨b, o, none⟩ (.map (some W.heap.size)) = Wa at *
  generalize W.heap.size = r1 at *
  replace s2 := s2 111
  have c2 : (cs.setIfInBounds o (.map (some r1)))[o + 1]? = some (.map none) := by simp [h2]
  have c1 := s1.cell c2
  have fb := (s1.mod ((Mod.refl [] Wa).alloc (.map #[] 0)) (by simp)).free
  have cb := (s1.mod ((Mod.refl [] Wa).alloc (.map #[] 0)) (by simp)).cell c2
  obtain ⟨t1, t2, t3, t4⟩ := stage s1 (o + 1)
  have H := Lib.hid (And.intro hn (And.intro a0 (And.intro hlt (And.intro hkl (And.intro hks (And.intro hs (And.intro hW (And.intro s2 (And.intro s3 (And.intro s4 (And.intro t1 (And.intro t2 (And.intro t3 (And.intro t4 (And.intro hr1 hnr1)))))))))))))))
  clear hn a0 hlt hkl hks hs hW s1 s2 s3 s4 t1 t2 t3 t4 hr1 hnr1 c2
  go_upto_region 5 with fail
  obtain ⟨hn, a0, hlt, hkl, hks, hs, hW, s2, s3, s4, t1, t2, t3, t4, hr1, hnr1⟩ := H.out
  clear c1 cb fb H
  have hr2 : r1 < Wa.heap.size := s4
  have hnr2 : bp ≠ Wa.heap.size := Nat.ne_of_lt hn.lt
  replace hn := hn.mod t3 (by simp; omega)
  replace s2 := s2.mod t3 (by simp; omega)
  generalize (Wa.alloc (.map #[] 0)).setCell ⟨b, o + 1, none⟩ (.map (some Wa.heap.size)) = Wb at *
  generalize Wa.heap.size = r2 at *
  replace t2 := t2 167
  have c2 : ((cs.setIfInBounds o (.map (some r1))).setIfInBounds (o + 1) (.map (some r2)))[o + 2]? = some (.map none) := by simp [h3]
  have c1 := t1.cell c2
  have fb := (t1.mod ((Mod.refl [] Wb).alloc (.map #[] 0)) (by simp)).free
  have cb := (t1.mod ((Mod.refl [] Wb).alloc (.map #[] 0)) (by simp)).cell c2
  obtain ⟨v1, v2, v3, v4⟩ := stage t1 (o + 2)
  have H := Lib.hid (And.intro hn (And.intro a0 (And.intro hlt (And.intro hkl (And.intro hks (And.intro hs (And.intro hW (And.intro s2 (And.intro s3 (And.intro t2 (And.intro t3 (And.intro t4 (And.intro hr1 (And.intro hnr1 (And.intro hr2 (And.intro hnr2 (And.intro v1 (And.intro v2 (And.intro v3 v4)))))))))))))))))))
  clear hn a0 hlt hkl hks hs hW s2 s3 t1 t2 t3 t4 hr1 hnr1 hr2 hnr2 c2 v1 v2 v3 v4
  go_upto_region 7 with fail
  obtain ⟨hn, a0, hlt, hkl, hks, hs, hW, s2, s3, t2, t3, t4, hr1, hnr1, hr2, hnr2, v1, v2, v3, v4⟩ := H.out
  clear c1 cb fb H
  have hr3 : r2 < Wb.heap.size := t4
  have hnr3 : bp ≠ Wb.heap.size := Nat.ne_of_lt hn.lt
  replace hn := hn.mod v3 (by simp; omega)
  have m1 := s2.mod v3 (by simp; omega)
  have m2 := t2.mod v3 (by simp; omega)
  replace a0 : Mod [b] w _ := (((a0.mono (by simp)).trans s3).trans t3).trans v3
  generalize (Wb.alloc (.map #[] 0)).setCell ⟨b, o + 2, none⟩ (.map (some Wb.heap.size)) = W9 at *
  generalize Wb.heap.size = r3 at *
  have m3 := v2 167
  have d1 : r2 ≠ r1 := by omega
  have d2 : r3 ≠ r1 := by omega
  have d3 : r3 ≠ r2 := by omega
  generalize hcs : ((cs.setIfInBounds o (.map (some r1))).setIfInBounds (o + 1) (.map (some r2))).setIfInBounds (o + 2) (.map (some r3)) = cs' at *
  have i1 : cs'[o]? = some (.map (some r1)) := by rw [← hcs, Array.getElem?_setIfInBounds_ne (by omega), Array.getElem?_setIfInBounds_ne (by omega), Array.getElem?_setIfInBounds_self_of_lt (by omega)]
  have i2 : cs'[o + 1]? = some (.map (some r2)) := by rw [← hcs, Array.getElem?_setIfInBounds_ne (by omega), Array.getElem?_setIfInBounds_self_of_lt (by simp; omega)]
  have i3 : cs'[o + 2]? = some (.map (some r3)) := by rw [← hcs, Array.getElem?_setIfInBounds_self_of_lt (by simp; omega)]
  have BIG := Lib.hid (And.intro hr1 (And.intro hr2 (And.intro hr3 (And.intro hnr1 (And.intro hnr2 hnr3)))))
  clear h1 h2 h3 hos s2 s3 t2 t3 t4 hnr1 hnr2 hnr3 hr1 hr2 hr3 v2 v3 v4 e1 e2 e3 g1 g2 g3
  replace hcs := Lib.hid hcs
  have c1 := v1.cell i1
  have n0 := hn.cell (i := 0) (v := .int .i32 x) rfl
  have n1 := hn.cell (i := 1) (v := .int .i32 y) rfl
  have hd' := v1
  clear v1 s4
  obtain ⟨u1, u2, u3⟩ := (m1.mod ((Mod.refl [] W9).drewN 1) (by simp)).put Tryz.underlying158 kl111 (.agg #[.int .i32 x, .int .i32 y]) hks
  have H := Lib.hid (And.intro hn (And.intro a0 (And.intro hd' (And.intro hlt (And.intro m1 (And.intro m2 (And.intro m3 (And.intro d1 (And.intro d2 (And.intro d3 (And.intro hkl (And.intro hks (And.intro hs (And.intro u2 (And.intro u3 hW)))))))))))))))
  clear hn a0 hd' hlt m1 m2 m3 d1 d2 d3 hkl hks hs u2 u3 hW
  go_still_tail 6, (by kernel_rfl)
  change wpList _ _ _ _ _ (W9.drewN 1)
  go_wp2_with fail
  obtain ⟨hn, a0, hd', hlt, m1, m2, m3, d1, d2, d3, hkl, hks, hs, u2, u3, hW⟩ := H.out
  clear u1 n0 n1 c1 H
  replace u3 := ((Mod.refl [r1] W9).drewN 1).trans u3
  have q1 : b ∉ [r1] := by simpa using hd'.ne_map m1
  have q2 : bp ∉ [r1] := by simpa using hn.ne_map m1
  have q3 : b ∉ [r2] := by simpa using hd'.ne_map m2
  have q4 : bp ∉ [r2] := by simpa using hn.ne_map m2
  generalize mupw 158 r1 (.string s) (.agg #[.int .i32 x, .int .i32 y]) (W9.drewN 1) = W1 at *
  replace hn := hn.mod u3 q2
  replace hd' := hd'.mod u3 q1
  replace m2 := m2.mod u3 (by simpa using d1)
  replace m3 := m3.mod u3 (by simpa using d2)
  have n0 := hn.cell (i := 0) (v := .int .i32 x) rfl
  have n1 := hn.cell (i := 1) (v := .int .i32 y) rfl
  have c2 := hd'.cell i2
  obtain ⟨v1, v2, v3⟩ := (m2.mod ((Mod.refl [] W1).drewN 1) (by simp)).put Tryz.underlying159 kl167 (.string s) hkl
  have H := Lib.hid (And.intro hn (And.intro a0 (And.intro hd' (And.intro hlt (And.intro m2 (And.intro m3 (And.intro d1 (And.intro d2 (And.intro d3 (And.intro hkl (And.intro hs (And.intro u2 (And.intro u3 (And.intro v2 (And.intro v3 (And.intro hW (And.intro q3 q4)))))))))))))))))
  clear hn a0 hd' hlt m1 m2 m3 d1 d2 d3 hkl hks hs u2 u3 v2 v3 q1 q2 q3 q4 hW
  go_still_tail 6, (by kernel_rfl)
  change wpList _ _ _ _ _ (W1.drewN 1)
  go_wp2_with fail
  obtain ⟨hn, a0, hd', hlt, m2, m3, d1, d2, d3, hkl, hs, u2, u3, v2, v3, hW, q3, q4⟩ := H.out
  clear v1 n0 n1 c2 H
  replace v3 := ((Mod.refl [r2] W1).drewN 1).trans v3
  generalize mupw 159 r2 (.agg #[.int .i32 x, .int .i32 y]) (.string s) (W1.drewN 1) = W2 at *
  have q1 : r1 ∉ [r2] := by simpa using Ne.symm d1
  replace hn := hn.mod v3 q4
  replace hd' := hd'.mod v3 q3
  replace u2 := u2.mod v3 q1
  replace m3 := m3.mod v3 (by simpa using d3)
  have c3 := hd'.cell i3
  have n0 := hn.cell (i := 0) (v := .int .i32 x) rfl
  have n1 := hn.cell (i := 1) (v := .int .i32 y) rfl
  have bc := bytes_conv 111 Tryz.underlying111 s
  have mB : Mod [] W2 (Lib.bytesWorld W2.drew 5 s) := ((Mod.refl [] W2).drew).trans (bytes_mod s _)
  have rB := bytes_rb s (grownCap W2.drew s.size 0 5) W2.drew
  have hnB := hn.mod mB (by simp)
  have hdB := hd'.mod mB (by simp)
  have k0 := hnB.cell (i := 0) (v := .int .i32 x) rfl
  have k1 := hnB.cell (i := 1) (v := .int .i32 y) rfl
  have k2 := hdB.cell i3
  obtain ⟨z1, z2, z3⟩ := (m3.mod mB (by simp)).put Tryz.underlying160 kl167 (.slice (some ⟨W2.heap.size, 0, none⟩) s.size (grownCap W2.drew s.size 0 5)) hkl
  have H := Lib.hid (And.intro hn (And.intro a0 (And.intro hd' (And.intro hlt (And.intro m3 (And.intro d1 (And.intro d2 (And.intro d3 (And.intro hkl (And.intro hs (And.intro u2 (And.intro u3 (And.intro v2 (And.intro v3 (And.intro hW (And.intro mB (And.intro rB (And.intro z2 z3))))))))))))))))))
  clear hn a0 hd' hlt m3 d1 d2 d3 hkl hs u2 u3 v2 v3 q1 q3 q4 hW mB rB z2 z3 hnB hdB
  clear i1 i2 i3
  go_region_law (first | fail)
  all_goals
    go_wp2_with fail
    refine bodyPost_end (results_none rfl _ _ _) rfl ?_
    obtain ⟨hn, a0, hd', hlt, m3, d1, d2, d3, hkl, hs, u2, u3, v2, v3, hW, mB, rB, z2, z3⟩ := H.out
    have hm : MB (Lib.bytesWorld W2.drew 5 s) 167 r3 (fun _ => none) := m3.mod mB (by simp)
    have n1 : r1 ∉ [r3] := by simpa using Ne.symm d2
    have n2 : r2 ∉ [r3] := by simpa using Ne.symm d3
    have M0 : Mod [b, r1, r2, r3] w W9 := a0.mono (fun x hx => .inl (by simp at hx; simp [hx]))
    have M1 := M0.trans (u3.mono (fun x hx => .inl (by simp at hx; simp [hx])))
    have M2 := M1.trans (v3.mono (fun x hx => .inl (by simp at hx; simp [hx])))
    have M3 := M2.trans (mB.mono (by simp))
    have M4 := M3.trans (z3.mono (fun x hx => .inl (by simp at hx; simp [hx])))
    obtain ⟨g1, g2, g3, -, -, -⟩ := BIG.out
    have hdZ := (hd'.mod mB (by simp)).mod z3 (by simpa using (hd'.mod mB (by simp)).ne_map hm)
    rw [← hcs.out] at hdZ
    refine ⟨rfl, r1, r2, r3, M4.mono (fun k hk => ?_), by omega, by omega, by omega, d1, d2, d3, hdZ, (u2.mod mB (by simp)).mod z3 n1, ⟨_, (v2.mod mB (by simp)).mod z3 n2⟩, _, z2, ?_⟩
    · simp only [List.mem_cons, List.not_mem_nil, or_false] at hk ⊢
      rcases hk with h | h | h | h
      · exact .inl h
      · exact .inr (by omega)
      · exact .inr (by omega)
      · exact .inr (by omega)
    refine (rB.mod z3 (fun k hk => .inr ?_)).base M2.size
    rw [List.mem_singleton.1 hk]
    exact hm.isMap
end Go.Proofs.YtcpjclakdpjjfaaGreatDoor
namespace Go.Proofs.YtcpjclakdpjjfaaGreatDoor
open Go.RowKit Wd
def look {α β : Type} [DecidableEq α] : List (α × β) → α → Option β
  | [], _ => none
  | (k, v) :: L, x => if x = k then some v else look L x
/-- A list of suffixes in memory. -/
def LS (w : World) (b o : Nat) (cs : Array Value) (R : List Nat) (L1 : List (ByteArray × (Int × Int))) (L3 : List ((Int × Int) × List UInt8)) : Prop :=
  ∃ r1 r2 r3 f1 f3, R = [r1, r2, r3] ∧ cs[o]? = some (.map (some r1)) ∧ cs[o + 1]? = some (.map (some r2)) ∧ cs[o + 2]? = some (.map (some r3)) ∧ MB w 111 r1 f1 ∧ (∃ f2, MB w 167 r2 f2) ∧ MB w 167 r3 f3 ∧ r2 ≠ r1 ∧ r3 ≠ r1 ∧ r3 ≠ r2 ∧
    (∀ s, f1 (.string s) = (look L1 s).map pr) ∧ ∀ p, match look L3 p with
      | none => f3 (pr p) = none
      | some t => ∃ V, f3 (pr p) = some V ∧ Rb w (b + 1) V t
theorem LS.maps {w : World} {b o : Nat} {cs : Array Value} {R : List Nat} {L1 : List (ByteArray × (Int × Int))} {L3 : List ((Int × Int) × List UInt8)} (h : LS w b o cs R L1 L3) : ∀ k, k ∈ R → ∃ es c, w.heap[k]? = some (.map es c) := by
  obtain ⟨r1, r2, r3, f1, f3, rfl, h1, h2, h3, m1, ⟨f2, m2⟩, m3, -⟩ := h
  intro k hk
  simp only [List.mem_cons, List.not_mem_nil, or_false] at hk
  rcases hk with rfl | rfl | rfl
  · exact m1.isMap
  · exact m2.isMap
  · exact m3.isMap
theorem LS.off {w : World} {b o : Nat} {cs : Array Value} {R : List Nat} {L1 : List (ByteArray × (Int × Int))} {L3 : List ((Int × Int) × List UInt8)} (h : LS w b o cs R L1 L3) {t : TypeId} {c : Nat} {cc : Array Value} (hd : Hd w c t cc) : c ∉ R := by
  intro hk
  obtain ⟨es, q, e⟩ := h.maps c hk
  have := hd.symm.trans e
  cases this
theorem LS.mod {w w' : World} {b o : Nat} {cs : Array Value} {R : List Nat} {L1 : List (ByteArray × (Int × Int))} {L3 : List ((Int × Int) × List UInt8)} (h : LS w b o cs R L1 L3) {S : List Nat} (m : Mod S w w') (hS : ∀ k, k ∈ S → k ∉ R ∧ (k < b + 1 ∨ ∃ es c, w.heap[k]? = some (.map es c))) {cs' : Array Value} (hcs : ∀ i, i < 3 → cs'[o + i]? = cs[o + i]?) : LS w' b o cs' R L1 L3 := by
  obtain ⟨r1, r2, r3, f1, f3, rfl, h1, h2, h3, m1, ⟨f2, m2⟩, m3, d1, d2, d3, t1, t3⟩ := h
  refine ⟨r1, r2, r3, f1, f3, rfl, (hcs 0 (by omega)).trans h1, (hcs 1 (by omega)).trans h2, (hcs 2 (by omega)).trans h3, m1.mod m (fun hk => (hS _ hk).1 (by simp)), ⟨f2, m2.mod m (fun hk => (hS _ hk).1 (by simp))⟩, m3.mod m (fun hk => (hS _ hk).1 (by simp)), d1, d2, d3, t1, fun p => ?_⟩
  have := t3 p
  split at this
  · exact this
  · obtain ⟨V, g1, g2⟩ := this
    exact ⟨V, g1, g2.mod m (fun k hk => (hS k hk).2)⟩
theorem upd_at (f : Value → Option Value) (k v x : Value) : upd f k v x = (open Classical in if x = k then some v else f x) := rfl
theorem pr_inj {p q : Int × Int} : pr p = pr q ↔ p = q := by
  unfold pr
  constructor
  · intro h
    simp at h
    exact Prod.ext h.1 h.2
  · rintro rfl; rfl
theorem LS.add {w : World} {b o : Nat} {cs : Array Value} {R : List Nat} {L1 : List (ByteArray × (Int × Int))} {L3 : List ((Int × Int) × List UInt8)} (h : LS w b o cs R L1 L3) (hd : Hd w b 164 cs) (s : ByteArray) (x y : Int) (kx : (-2147483648 : Int) ≤ x ∧ x ≤ 2147483647 ∧ (-2147483648 : Int) ≤ y ∧ y ≤ 2147483647) (hs : s.size ≤ maxLen) :
    Calls Tryz.prog 101 #[.pointer (some ⟨b, o, none⟩), .string s, .agg #[.int .i32 x, .int .i32 y]] w fun e w' => e = .returned (.tuple #[]) ∧ Mod R w w' ∧ LS w' b o cs R ((s, (x, y)) :: L1) (((x, y), s.data.toList) :: L3) := by
  have hmaps := h.maps
  have hlt := hd.lt
  obtain ⟨r1, r2, r3, f1, f3, rfl, h1, h2, h3, m1, ⟨f2, m2⟩, m3, d1, d2, d3, t1, t3⟩ := h
  refine (add_more b o s x y (key_pair kx.1 kx.2.1 kx.2.2.1 kx.2.2.2) hs r1 r2 r3 f1 f2 f3 w cs hd h1 h2 h3 m1 m2 m3 d1 d2 d3).mono ?_
  rintro e w' ⟨rfl, m, g1, g2, V, g3, g4⟩
  refine ⟨rfl, m, r1, r2, r3, _, _, rfl, h1, h2, h3, g1, g2, g3, d1, d2, d3, fun u => ?_, fun p => ?_⟩
  · simp only [look, upd_at, Value.string.injEq]
    split
    · rfl
    · exact t1 u
  · rw [upd_at, show (Value.agg #[.int .i32 x, .int .i32 y]) = pr (x, y) from rfl, pr_inj]
    simp only [look]
    by_cases hp : p = (x, y)
    · simp only [hp, if_true]
      exact ⟨V, rfl, g4.base (by omega)⟩
    · simp only [hp, if_false]
      have := t3 p
      split at this
      · exact this
      · obtain ⟨U, q1, q2⟩ := this
        exact ⟨U, q1, q2.mod m (fun k hk => .inr (hmaps k hk))⟩
theorem LS.first {w : World} {b o : Nat} {cs : Array Value} (hd : Hd w b 164 cs) (h1 : cs[o]? = some (.map none)) (h2 : cs[o + 1]? = some (.map none)) (h3 : cs[o + 2]? = some (.map none)) (s : ByteArray) (x y : Int) (kx : (-2147483648 : Int) ≤ x ∧ x ≤ 2147483647 ∧ (-2147483648 : Int) ≤ y ∧ y ≤ 2147483647) (hs : s.size ≤ maxLen) :
    Calls Tryz.prog 101 #[.pointer (some ⟨b, o, none⟩), .string s, .agg #[.int .i32 x, .int .i32 y]] w fun e w' => e = .returned (.tuple #[]) ∧ ∃ cs' R, Mod [b] w w' ∧ (∀ k, k ∈ R → w.heap.size ≤ k) ∧ Hd w' b 164 cs' ∧ (∀ i, i < o ∨ o + 3 ≤ i → cs'[i]? = cs[i]?) ∧ LS w' b o cs' R [(s, (x, y))] [((x, y), s.data.toList)] := by
  have hlt := hd.lt
  refine (add_first b o s x y (key_pair kx.1 kx.2.1 kx.2.2.1 kx.2.2.2) hs w cs hd h1 h2 h3).mono ?_
  rintro e w' ⟨rfl, r1, r2, r3, m, e1, e2, e3, d1, d2, d3, hd', g1, g2, V, g3, g4⟩
  have hos : o + 2 < cs.size := (Array.getElem?_eq_some_iff.1 h3).1
  refine ⟨rfl, _, [r1, r2, r3], m, fun k hk => ?_, hd', fun i hi => ?_, r1, r2, r3, _, _, rfl, ?_, ?_, ?_, g1, g2, g3, d1, d2, d3, fun u => ?_, fun p => ?_⟩
  · simp only [List.mem_cons, List.not_mem_nil, or_false] at hk
    omega
  · rw [Array.getElem?_setIfInBounds_ne (by omega), Array.getElem?_setIfInBounds_ne (by omega), Array.getElem?_setIfInBounds_ne (by omega)]
  · rw [Array.getElem?_setIfInBounds_ne (by omega), Array.getElem?_setIfInBounds_ne (by omega), Array.getElem?_setIfInBounds_self_of_lt (by omega)]
  · rw [Array.getElem?_setIfInBounds_ne (by omega), Array.getElem?_setIfInBounds_self_of_lt (by simp; omega)]
  · rw [Array.getElem?_setIfInBounds_self_of_lt (by simp; omega)]
  · simp only [look, upd_at, Value.string.injEq]
    split <;> rfl
  · rw [upd_at, show (Value.agg #[.int .i32 x, .int .i32 y]) = pr (x, y) from rfl, pr_inj]
    simp only [look]
    by_cases hp : p = (x, y)
    · simp only [hp, if_true]
      exact ⟨V, rfl, g4.base (by omega)⟩
    · simp only [hp, if_false]
end Go.Proofs.YtcpjclakdpjjfaaGreatDoor
