/- Closed facts of the row and of the card of FnQuantityCmp, one by one. -/
import Derived.Test.YtcpjclakdpjjfaaGreatDoorTie
import Derived.Test.YtcpjclakdpjjfaaGreatDoorCards
import Derived.SevenTiedAt
import Derived.KernelRfl
namespace Go.Proofs.YtcpjclakdpjjfaaGreatDoor
open Go
set_option maxRecDepth 100000
theorem k6_0 : (Rows.fnQuantityCmpRow.wf (OpenSpec.ofChange Rows.fnQuantityCmpSpec)) = true := by kernel_rfl
theorem k6_1 : (laidOutB Tryz.prog) = true := by kernel_rfl
theorem k6_2 : (mapsRowed Tryz.prog) = true := by kernel_rfl
theorem k6_3 : (Tryz.f6.params.all (Tryz.prog.readableRec ·)) = true := by kernel_rfl
theorem k6_4 : (namedTie Tryz.prog Rows.fnQuantityCmpRow.named Rows.fnQuantityCmpSpec.vars) = true := by kernel_rfl
theorem k6_5 : ((Rows.fnQuantityCmpRow.stops == [])) = true := by kernel_rfl
theorem k6_6 : ((Tryz.prog.stops == [])) = true := by kernel_rfl
theorem k6_7 : ((Rows.fnQuantityCmpRow.knobs == [])) = true := by kernel_rfl
theorem k6_8 : ((Tryz.prog.stopKnobs == [])) = true := by kernel_rfl
theorem k6_9 : ((Rows.fnQuantityCmpRow.inPlace == Tryz.prog.inPlace 6)) = true := by kernel_rfl
theorem k6_10 : ((Rows.fnQuantityCmpRow.unfollowed == Tryz.prog.unfollowed 6)) = true := by kernel_rfl
theorem k6_11 : ((Rows.fnQuantityCmpRow.recurses == Tryz.prog.recurses 6)) = true := by kernel_rfl
theorem k6_12 : ((Rows.fnQuantityCmpRow.named == Tryz.prog.varsNamed 6)) = true := by kernel_rfl
theorem k6_13 : ((Rows.fnQuantityCmpRow.maps == (Tryz.f6.params.toList ++ Rows.fnQuantityCmpSpec.plain.varTypes Tryz.prog).any (Tryz.prog.mapsRec ·))) = true := by kernel_rfl
theorem k6_14 : ((Rows.fnQuantityCmpRow.ifaces == (Tryz.f6.params.toList ++ Rows.fnQuantityCmpSpec.plain.varTypes Tryz.prog).any (Tryz.prog.ifacesRec ·))) = true := by kernel_rfl
theorem k6_15 : ((Rows.fnQuantityCmpRow.mapsOut == Tryz.prog.mapsAmong Tryz.f6.resultTypes.toList)) = true := by kernel_rfl
theorem k6_16 : ((Rows.fnQuantityCmpRow.loops == (Tryz.f6.params.toList ++ Rows.fnQuantityCmpSpec.plain.varTypes Tryz.prog).any (Tryz.prog.loopsFrom ·))) = true := by kernel_rfl
theorem k6_17 : ((Rows.fnQuantityCmpRow.wideKeys == (Tryz.f6.params.toList ++ Rows.fnQuantityCmpSpec.plain.varTypes Tryz.prog ++ Tryz.f6.resultTypes.toList).any (Tryz.prog.wideKeysFrom ·))) = true := by kernel_rfl
theorem k6_18 : (Rows.fnQuantityCmpSpec.vars.all (Tryz.prog.varReadable ·)) = true := by kernel_rfl
theorem k6_19 : (Tryz.f6.resultTypes.all (fun t => Tryz.prog.readableRec t && decide (t < Tryz.prog.types.size))) = true := by kernel_rfl
theorem k6_20 : ((Rows.fnQuantityCmpRow.ifacesOut == Tryz.f6.resultTypes.toList.any (Tryz.prog.ifacesRec ·))) = true := by kernel_rfl
theorem k6_21 : ((Rows.fnQuantityCmpRow.loopsOut == Tryz.f6.resultTypes.toList.any (Tryz.prog.loopsFrom ·))) = true := by kernel_rfl
theorem k6_22 : ((Rows.fnQuantityCmpRow.plainKeys == Tryz.prog.plainKeys)) = true := by kernel_rfl
theorem k6_23 : (Rows.fnQuantityCmpRow.shortTexts.isNone) = true := by kernel_rfl
theorem k6_24 : (Tryz.prog.stopsHeard) = true := by kernel_rfl
theorem k6_25 : (Tryz.prog.mayEnter) = true := by kernel_rfl
theorem k6_26 : ((Rows.fnQuantityCmpRow.lifted == Tryz.prog.liftsFinal)) = true := by kernel_rfl
theorem k6_27 : ((Tryz.prog.make == some Rows.fnQuantityCmpRow.make)) = true := by kernel_rfl
theorem k6_28 : ((Rows.fnQuantityCmpRow.kinds == (if Rows.fnQuantityCmpRow.domain.isEmpty then [] else Tryz.f6.params.toList.map fun t => match Tryz.prog.underlying t with | some (.int k) => some k | _ => none))) = true := by kernel_rfl
theorem k6_29 : ((Rows.fnQuantityCmpRow.pinned == Rows.fnQuantityCmpRow.pinnedBy)) = true := by kernel_rfl
theorem k6_30 : ((Rows.fnQuantityCmpRow.veiled == (Tryz.f6.params.toList ++ Rows.fnQuantityCmpSpec.plain.varTypes Tryz.prog ++ Tryz.f6.resultTypes.toList).any (Tryz.prog.veiledRec ·))) = true := by kernel_rfl
theorem k6_31 : (Rows.fnQuantityCmpRow.veiledFits Tryz.prog Tryz.f6.params.toList (Tryz.f6.params.toList ++ Rows.fnQuantityCmpSpec.plain.varTypes Tryz.prog ++ Tryz.f6.resultTypes.toList)) = true := by kernel_rfl
theorem closed6 : joinedFacts Tryz.prog 6 Tryz.f6 Rows.fnQuantityCmpSpec Rows.fnQuantityCmpRow = true := by
  unfold joinedFacts
  simp only [Bool.and_eq_true]
  exact ⟨⟨⟨⟨⟨⟨⟨⟨⟨⟨⟨⟨⟨⟨⟨⟨⟨⟨⟨⟨⟨⟨⟨⟨⟨⟨⟨⟨⟨⟨⟨k6_0, k6_1⟩, k6_2⟩, k6_3⟩, k6_4⟩, k6_5⟩, k6_6⟩, k6_7⟩, k6_8⟩, k6_9⟩, k6_10⟩, k6_11⟩, k6_12⟩, k6_13⟩, k6_14⟩, k6_15⟩, k6_16⟩, k6_17⟩, k6_18⟩, k6_19⟩, k6_20⟩, k6_21⟩, k6_22⟩, k6_23⟩, k6_24⟩, k6_25⟩, k6_26⟩, k6_27⟩, k6_28⟩, k6_29⟩, k6_30⟩, k6_31⟩


theorem cf1 : Rows.fnQuantityCmpRow.wfByText (OpenSpec.ofChange Rows.fnQuantityCmpSpec) = true := by kernel_rfl
theorem cf2 : Tryz.pinned.checked.prog.mainIs = some (true, "6f4571e43cca149963d0f381ef86e9577ee22ff786b5c003abeb38887eec5513".toList) := by kernel_rfl
theorem cf3 : Tryz.prog.funcNamed "pub-stockroom/laws.FnQuantityCmp" = some 6 := by kernel_rfl
theorem cf4 : true = Tryz.prog.looks [] := by kernel_rfl
theorem cf5 : ([23, 23].all fun u => !Tryz.prog.wantsStandIn u) = true := by kernel_rfl
theorem cf6 : false = Rows.fnQuantityCmpRow.goesBy Tryz.prog := by kernel_rfl
end Go.Proofs.YtcpjclakdpjjfaaGreatDoor
