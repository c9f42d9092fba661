/- Closed facts of the row and of the card of FnQuantityBack, one by one. -/
import Derived.Test.YtcpjclakdpjjfaaGreatDoorTie
import Derived.Test.YtcpjclakdpjjfaaGreatDoorCards
import Derived.SevenTiedAt
import Derived.KernelRfl
namespace Go.Proofs.YtcpjclakdpjjfaaGreatDoor
open Go
set_option maxRecDepth 100000
theorem k8_0 : (Rows.fnQuantityBackRow.wf (OpenSpec.ofChange Rows.fnQuantityBackSpec)) = true := by kernel_rfl
theorem k8_1 : (laidOutB Tryz.prog) = true := by kernel_rfl
theorem k8_2 : (mapsRowed Tryz.prog) = true := by kernel_rfl
theorem k8_3 : (Tryz.f8.params.all (Tryz.prog.readableRec ·)) = true := by kernel_rfl
theorem k8_4 : (namedTie Tryz.prog Rows.fnQuantityBackRow.named Rows.fnQuantityBackSpec.vars) = true := by kernel_rfl
theorem k8_5 : ((Rows.fnQuantityBackRow.stops == [])) = true := by kernel_rfl
theorem k8_6 : ((Tryz.prog.stops == [])) = true := by kernel_rfl
theorem k8_7 : ((Rows.fnQuantityBackRow.knobs == [])) = true := by kernel_rfl
theorem k8_8 : ((Tryz.prog.stopKnobs == [])) = true := by kernel_rfl
theorem k8_9 : ((Rows.fnQuantityBackRow.inPlace == Tryz.prog.inPlace 8)) = true := by kernel_rfl
theorem k8_10 : ((Rows.fnQuantityBackRow.unfollowed == Tryz.prog.unfollowed 8)) = true := by kernel_rfl
theorem k8_11 : ((Rows.fnQuantityBackRow.recurses == Tryz.prog.recurses 8)) = true := by kernel_rfl
theorem k8_12 : ((Rows.fnQuantityBackRow.named == Tryz.prog.varsNamed 8)) = true := by kernel_rfl
theorem k8_13 : ((Rows.fnQuantityBackRow.maps == (Tryz.f8.params.toList ++ Rows.fnQuantityBackSpec.plain.varTypes Tryz.prog).any (Tryz.prog.mapsRec ·))) = true := by kernel_rfl
theorem k8_14 : ((Rows.fnQuantityBackRow.ifaces == (Tryz.f8.params.toList ++ Rows.fnQuantityBackSpec.plain.varTypes Tryz.prog).any (Tryz.prog.ifacesRec ·))) = true := by kernel_rfl
theorem k8_15 : ((Rows.fnQuantityBackRow.mapsOut == Tryz.prog.mapsAmong Tryz.f8.resultTypes.toList)) = true := by kernel_rfl
theorem k8_16 : ((Rows.fnQuantityBackRow.loops == (Tryz.f8.params.toList ++ Rows.fnQuantityBackSpec.plain.varTypes Tryz.prog).any (Tryz.prog.loopsFrom ·))) = true := by kernel_rfl
theorem k8_17 : ((Rows.fnQuantityBackRow.wideKeys == (Tryz.f8.params.toList ++ Rows.fnQuantityBackSpec.plain.varTypes Tryz.prog ++ Tryz.f8.resultTypes.toList).any (Tryz.prog.wideKeysFrom ·))) = true := by kernel_rfl
theorem k8_18 : (Rows.fnQuantityBackSpec.vars.all (Tryz.prog.varReadable ·)) = true := by kernel_rfl
theorem k8_19 : (Tryz.f8.resultTypes.all (fun t => Tryz.prog.readableRec t && decide (t < Tryz.prog.types.size))) = true := by kernel_rfl
theorem k8_20 : ((Rows.fnQuantityBackRow.ifacesOut == Tryz.f8.resultTypes.toList.any (Tryz.prog.ifacesRec ·))) = true := by kernel_rfl
theorem k8_21 : ((Rows.fnQuantityBackRow.loopsOut == Tryz.f8.resultTypes.toList.any (Tryz.prog.loopsFrom ·))) = true := by kernel_rfl
theorem k8_22 : ((Rows.fnQuantityBackRow.plainKeys == Tryz.prog.plainKeys)) = true := by kernel_rfl
theorem k8_23 : (Rows.fnQuantityBackRow.shortTexts.isNone) = true := by kernel_rfl
theorem k8_24 : (Tryz.prog.stopsHeard) = true := by kernel_rfl
theorem k8_25 : (Tryz.prog.mayEnter) = true := by kernel_rfl
theorem k8_26 : ((Rows.fnQuantityBackRow.lifted == Tryz.prog.liftsFinal)) = true := by kernel_rfl
theorem k8_27 : ((Tryz.prog.make == some Rows.fnQuantityBackRow.make)) = true := by kernel_rfl
theorem k8_28 : ((Rows.fnQuantityBackRow.kinds == (if Rows.fnQuantityBackRow.domain.isEmpty then [] else Tryz.f8.params.toList.map fun t => match Tryz.prog.underlying t with | some (.int k) => some k | _ => none))) = true := by kernel_rfl
theorem k8_29 : ((Rows.fnQuantityBackRow.pinned == Rows.fnQuantityBackRow.pinnedBy)) = true := by kernel_rfl
theorem k8_30 : ((Rows.fnQuantityBackRow.veiled == (Tryz.f8.params.toList ++ Rows.fnQuantityBackSpec.plain.varTypes Tryz.prog ++ Tryz.f8.resultTypes.toList).any (Tryz.prog.veiledRec ·))) = true := by kernel_rfl
theorem k8_31 : (Rows.fnQuantityBackRow.veiledFits Tryz.prog Tryz.f8.params.toList (Tryz.f8.params.toList ++ Rows.fnQuantityBackSpec.plain.varTypes Tryz.prog ++ Tryz.f8.resultTypes.toList)) = true := by kernel_rfl
theorem closed8 : joinedFacts Tryz.prog 8 Tryz.f8 Rows.fnQuantityBackSpec Rows.fnQuantityBackRow = true := by
  unfold joinedFacts
  simp only [Bool.and_eq_true]
  exact ⟨⟨⟨⟨⟨⟨⟨⟨⟨⟨⟨⟨⟨⟨⟨⟨⟨⟨⟨⟨⟨⟨⟨⟨⟨⟨⟨⟨⟨⟨⟨k8_0, k8_1⟩, k8_2⟩, k8_3⟩, k8_4⟩, k8_5⟩, k8_6⟩, k8_7⟩, k8_8⟩, k8_9⟩, k8_10⟩, k8_11⟩, k8_12⟩, k8_13⟩, k8_14⟩, k8_15⟩, k8_16⟩, k8_17⟩, k8_18⟩, k8_19⟩, k8_20⟩, k8_21⟩, k8_22⟩, k8_23⟩, k8_24⟩, k8_25⟩, k8_26⟩, k8_27⟩, k8_28⟩, k8_29⟩, k8_30⟩, k8_31⟩


theorem cf1 : Rows.fnQuantityBackRow.wfByText (OpenSpec.ofChange Rows.fnQuantityBackSpec) = true := by kernel_rfl
theorem cf2 : Tryz.pinned.checked.prog.mainIs = some (true, "6f4571e43cca149963d0f381ef86e9577ee22ff786b5c003abeb38887eec5513".toList) := by kernel_rfl
theorem cf3 : Tryz.prog.funcNamed "pub-stockroom/laws.FnQuantityBack" = some 8 := by kernel_rfl
theorem cf4 : true = Tryz.prog.looks [] := by kernel_rfl
theorem cf5 : ([23, 23].all fun u => !Tryz.prog.wantsStandIn u) = true := by kernel_rfl
theorem cf6 : false = Rows.fnQuantityBackRow.goesBy Tryz.prog := by kernel_rfl
end Go.Proofs.YtcpjclakdpjjfaaGreatDoor
