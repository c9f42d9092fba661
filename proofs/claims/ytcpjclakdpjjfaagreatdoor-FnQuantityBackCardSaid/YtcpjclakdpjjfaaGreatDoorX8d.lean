/- FnQuantityBack, its tied card: what is added to a quantity and taken away again leaves what was there; for all words, where the listed variables begin as the program lays them. -/
import Derived.Test.YtcpjclakdpjjfaaGreatDoorX8a
import Derived.Test.YtcpjclakdpjjfaaGreatDoorX8c
namespace Go.Proofs.YtcpjclakdpjjfaaGreatDoor
open Go
theorem LaidEnv.env2 {w : World} (h : LaidEnv w) : Env2 w := by
  obtain ⟨a, ha⟩ := h.eof
  exact ⟨⟨h.g6, h.g7, h.g8, h.g12, h.g16, h.big⟩, h.tab, a, ha⟩
theorem walk8 : Walk8 := fun sign num dot den kind place up ps pow sign' num' dot' den' kind' place' up' ps' pow' w h =>
  (law_back_calls sign num dot den kind place up ps pow sign' num' dot' den' kind' place' up' ps' pow' w h.env2).mono fun _ _ ⟨h1, h2⟩ => ⟨h1, h2.below⟩
theorem fnQuantityBack_card : Rows.FnQuantityBackCardSaid :=
  Claim7.holds_tied_plain_at .later [] [.data, .data, .data, .data, .sentinel, .sentinel, .sentinel, .sentinel, .sentinel, .data, .data, .data, .data, .data, .sentinel, .sentinel, .sentinel, .pinned] true (true, "6f4571e43cca149963d0f381ef86e9577ee22ff786b5c003abeb38887eec5513") true
    (holds8 walk8) (fun _ h => by cases h) cf1 (fun _ h => by cases h) fnQuantityBack_row_tie rfl ⟨rfl, rfl⟩ cf2 rfl
    (fun f fn hf hfn => by
      obtain rfl : f = 8 := Option.some.inj (cf3.symm.trans hf) |>.symm
      obtain rfl : fn = Tryz.f8 := (Option.some.inj (Tryz.func8.symm.trans hfn)).symm
      exact ⟨cf4, fun j t ht => by
        rw [Tryz.params8] at ht
        have hm : t ∈ [23, 23] := by simpa using Array.mem_of_getElem? ht
        exact (show Tryz.prog.wantsStandIn t = false by simpa using List.all_eq_true.1 cf5 t hm)⟩)
    cf6
end Go.Proofs.YtcpjclakdpjjfaaGreatDoor
