/- FnQuantityReads, its tied card: a quantity, however it is written, is read and told in its canonical form, for every word, where the listed variables begin as the program lays them. -/
import Derived.Test.YtcpjclakdpjjfaaGreatDoorW51
import Derived.Test.YtcpjclakdpjjfaaGreatDoorW52
namespace Go.Proofs.YtcpjclakdpjjfaaGreatDoor
open Go
theorem fnQuantityReads_card : Rows.FnQuantityReadsCardSaid :=
  Claim7.holds_tied_plain_at .later [] [.data, .data, .data, .data, .sentinel, .sentinel, .sentinel, .sentinel, .sentinel, .data, .data, .data, .data, .data, .sentinel, .sentinel, .sentinel, .pinned] true (true, "6f4571e43cca149963d0f381ef86e9577ee22ff786b5c003abeb38887eec5513") true
    (reads_holds reads_walk) (fun _ h => by cases h) cf1 (fun _ h => by cases h) fnQuantityReads_row_tie rfl ⟨rfl, rfl⟩ cf2 rfl
    (fun f fn hf hfn => by
      obtain rfl : f = 3 := Option.some.inj (cf3.symm.trans hf) |>.symm
      obtain rfl : fn = Tryz.f3 := (Option.some.inj (Tryz.func3.symm.trans hfn)).symm
      exact ⟨cf4, fun j t ht => by
        rw [Tryz.params3] at ht
        have hm : t ∈ [23] := by simpa using Array.mem_of_getElem? ht
        exact (show Tryz.prog.wantsStandIn t = false by simpa using List.all_eq_true.1 cf5 t hm)⟩)
    cf6
end Go.Proofs.YtcpjclakdpjjfaaGreatDoor
