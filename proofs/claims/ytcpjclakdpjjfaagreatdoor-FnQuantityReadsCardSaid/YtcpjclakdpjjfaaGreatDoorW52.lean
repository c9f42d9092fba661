/- Closed facts of the card of FnQuantityReads, one by one. -/
import Derived.Test.YtcpjclakdpjjfaaGreatDoorCards
import Derived.Test.YtcpjclakdpjjfaaGreatDoorTie
import Derived.SevenTiedAt
import Derived.KernelRfl
namespace Go.Proofs.YtcpjclakdpjjfaaGreatDoor
open Go
set_option maxRecDepth 100000
theorem cf1 : Rows.fnQuantityReadsRow.wfByText (OpenSpec.ofChange Rows.fnQuantityReadsSpec) = true := by kernel_rfl
theorem cf2 : Tryz.pinned.checked.prog.mainIs = some (true, "6f4571e43cca149963d0f381ef86e9577ee22ff786b5c003abeb38887eec5513".toList) := by kernel_rfl
theorem cf3 : Tryz.prog.funcNamed "pub-stockroom/laws.FnQuantityReads" = some 3 := by kernel_rfl
theorem cf4 : true = Tryz.prog.looks [] := by kernel_rfl
theorem cf5 : ([23].all fun u => !Tryz.prog.wantsStandIn u) = true := by kernel_rfl
theorem cf6 : false = Rows.fnQuantityReadsRow.goesBy Tryz.prog := by kernel_rfl
end Go.Proofs.YtcpjclakdpjjfaaGreatDoor
