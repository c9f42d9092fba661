/- FnQuantityRounds, its tied card: a quantity rounded up to a scale is its number away from 0 to a multiple of that power of ten; for all words, where the listed variables begin as the program lays them. -/
import Derived.Test.YtcpjclakdpjjfaaGreatDoorX5a
import Derived.Test.YtcpjclakdpjjfaaGreatDoorX5c
namespace Go.Proofs.YtcpjclakdpjjfaaGreatDoor
open Go
theorem LaidEnv.env2 {w : World} (h : LaidEnv w) : Env2 w := by
  obtain ⟨a, ha⟩ := h.eof
  exact ⟨⟨h.g6, h.g7, h.g8, h.g12, h.g16, h.big⟩, h.tab, a, ha⟩
theorem walk5 : Walk5 := fun sign num dot den kind place up ps pow x w h _ =>
  (rounds_calls sign num dot den kind place up ps pow x w h.env2).mono fun _ _ ⟨h1, h2⟩ => ⟨h1, h2.below⟩
theorem fnQuantityRounds_card : Rows.FnQuantityRoundsCardSaid :=
  Claim7.holds_tied_plain_at .later [] [.data, .data, .data, .data, .sentinel, .sentinel, .sentinel, .sentinel, .sentinel, .data, .data, .data, .data, .data, .sentinel, .sentinel, .sentinel, .pinned] true (true, "6f4571e43cca149963d0f381ef86e9577ee22ff786b5c003abeb38887eec5513") true
    (holds5 walk5) (fun _ h => by cases h) cf1 (fun _ h => by cases h) fnQuantityRounds_row_tie rfl ⟨rfl, rfl⟩ cf2 rfl
    (fun f fn hf hfn => by
      obtain rfl : f = 5 := Option.some.inj (cf3.symm.trans hf) |>.symm
      obtain rfl : fn = Tryz.f5 := (Option.some.inj (Tryz.func5.symm.trans hfn)).symm
      exact ⟨cf4, fun j t ht => by
        rw [Tryz.params5] at ht
        have hm : t ∈ [23, 3] := by simpa using Array.mem_of_getElem? ht
        exact (show Tryz.prog.wantsStandIn t = false by simpa using List.all_eq_true.1 cf5 t hm)⟩)
    cf6
end Go.Proofs.YtcpjclakdpjjfaaGreatDoor
