/- FnQuantityTimes, its tied card: a quantity times a number is that of its number, and the opposite one; for all words, where the listed variables begin as the program lays them. -/
import Derived.Test.YtcpjclakdpjjfaaGreatDoorX7a
import Derived.Test.YtcpjclakdpjjfaaGreatDoorX7c
namespace Go.Proofs.YtcpjclakdpjjfaaGreatDoor
open Go
theorem LaidEnv.env2 {w : World} (h : LaidEnv w) : Env2 w := by
  obtain ⟨a, ha⟩ := h.eof
  exact ⟨⟨h.g6, h.g7, h.g8, h.g12, h.g16, h.big⟩, h.tab, a, ha⟩
theorem walk7 : Walk7 := fun sign num dot den kind place up ps pow x w h hx =>
  (times_calls sign num dot den kind place up ps pow x w h.env2 (by unfold i64; have h := hx; simp [Lit.wf] at h; rw [show IntKind.i64.min = -9223372036854775808 by decide] at h; exact h)).mono fun _ _ ⟨h1, h2⟩ => ⟨h1, h2.below⟩
theorem fnQuantityTimes_card : Rows.FnQuantityTimesCardSaid :=
  Claim7.holds_tied_plain_at .later [] [.data, .data, .data, .data, .sentinel, .sentinel, .sentinel, .sentinel, .sentinel, .data, .data, .data, .data, .data, .sentinel, .sentinel, .sentinel, .pinned] true (true, "6f4571e43cca149963d0f381ef86e9577ee22ff786b5c003abeb38887eec5513") true
    (holds7 walk7) (fun _ h => by cases h) cf1 (fun _ h => by cases h) fnQuantityTimes_row_tie rfl ⟨rfl, rfl⟩ cf2 rfl
    (fun f fn hf hfn => by
      obtain rfl : f = 7 := Option.some.inj (cf3.symm.trans hf) |>.symm
      obtain rfl : fn = Tryz.f7 := (Option.some.inj (Tryz.func7.symm.trans hfn)).symm
      exact ⟨cf4, fun j t ht => by
        rw [Tryz.params7] at ht
        have hm : t ∈ [23, 2] := by simpa using Array.mem_of_getElem? ht
        exact (show Tryz.prog.wantsStandIn t = false by simpa using List.all_eq_true.1 cf5 t hm)⟩)
    cf6
end Go.Proofs.YtcpjclakdpjjfaaGreatDoor
