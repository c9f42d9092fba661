/- Closed facts of the row and of the card of FnQuantityTimes, one by one. -/
import Derived.Test.YtcpjclakdpjjfaaGreatDoorTie
import Derived.Test.YtcpjclakdpjjfaaGreatDoorCards
import Derived.SevenTiedAt
import Derived.KernelRfl
namespace Go.Proofs.YtcpjclakdpjjfaaGreatDoor
open Go
set_option maxRecDepth 100000
theorem k7_0 : (Rows.fnQuantityTimesRow.wf (OpenSpec.ofChange Rows.fnQuantityTimesSpec)) = true := by kernel_rfl
theorem k7_1 : (laidOutB Tryz.prog) = true := by kernel_rfl
theorem k7_2 : (mapsRowed Tryz.prog) = true := by kernel_rfl
theorem k7_3 : (Tryz.f7.params.all (Tryz.prog.readableRec ·)) = true := by kernel_rfl
theorem k7_4 : (namedTie Tryz.prog Rows.fnQuantityTimesRow.named Rows.fnQuantityTimesSpec.vars) = true := by kernel_rfl
theorem k7_5 : ((Rows.fnQuantityTimesRow.stops == [])) = true := by kernel_rfl
theorem k7_6 : ((Tryz.prog.stops == [])) = true := by kernel_rfl
theorem k7_7 : ((Rows.fnQuantityTimesRow.knobs == [])) = true := by kernel_rfl
theorem k7_8 : ((Tryz.prog.stopKnobs == [])) = true := by kernel_rfl
theorem k7_9 : ((Rows.fnQuantityTimesRow.inPlace == Tryz.prog.inPlace 7)) = true := by kernel_rfl
theorem k7_10 : ((Rows.fnQuantityTimesRow.unfollowed == Tryz.prog.unfollowed 7)) = true := by kernel_rfl
theorem k7_11 : ((Rows.fnQuantityTimesRow.recurses == Tryz.prog.recurses 7)) = true := by kernel_rfl
theorem k7_12 : ((Rows.fnQuantityTimesRow.named == Tryz.prog.varsNamed 7)) = true := by kernel_rfl
theorem k7_13 : ((Rows.fnQuantityTimesRow.maps == (Tryz.f7.params.toList ++ Rows.fnQuantityTimesSpec.plain.varTypes Tryz.prog).any (Tryz.prog.mapsRec ·))) = true := by kernel_rfl
theorem k7_14 : ((Rows.fnQuantityTimesRow.ifaces == (Tryz.f7.params.toList ++ Rows.fnQuantityTimesSpec.plain.varTypes Tryz.prog).any (Tryz.prog.ifacesRec ·))) = true := by kernel_rfl
theorem k7_15 : ((Rows.fnQuantityTimesRow.mapsOut == Tryz.prog.mapsAmong Tryz.f7.resultTypes.toList)) = true := by kernel_rfl
theorem k7_16 : ((Rows.fnQuantityTimesRow.loops == (Tryz.f7.params.toList ++ Rows.fnQuantityTimesSpec.plain.varTypes Tryz.prog).any (Tryz.prog.loopsFrom ·))) = true := by kernel_rfl
theorem k7_17 : ((Rows.fnQuantityTimesRow.wideKeys == (Tryz.f7.params.toList ++ Rows.fnQuantityTimesSpec.plain.varTypes Tryz.prog ++ Tryz.f7.resultTypes.toList).any (Tryz.prog.wideKeysFrom ·))) = true := by kernel_rfl
theorem k7_18 : (Rows.fnQuantityTimesSpec.vars.all (Tryz.prog.varReadable ·)) = true := by kernel_rfl
theorem k7_19 : (Tryz.f7.resultTypes.all (fun t => Tryz.prog.readableRec t && decide (t < Tryz.prog.types.size))) = true := by kernel_rfl
theorem k7_20 : ((Rows.fnQuantityTimesRow.ifacesOut == Tryz.f7.resultTypes.toList.any (Tryz.prog.ifacesRec ·))) = true := by kernel_rfl
theorem k7_21 : ((Rows.fnQuantityTimesRow.loopsOut == Tryz.f7.resultTypes.toList.any (Tryz.prog.loopsFrom ·))) = true := by kernel_rfl
theorem k7_22 : ((Rows.fnQuantityTimesRow.plainKeys == Tryz.prog.plainKeys)) = true := by kernel_rfl
theorem k7_23 : (Rows.fnQuantityTimesRow.shortTexts.isNone) = true := by kernel_rfl
theorem k7_24 : (Tryz.prog.stopsHeard) = true := by kernel_rfl
theorem k7_25 : (Tryz.prog.mayEnter) = true := by kernel_rfl
theorem k7_26 : ((Rows.fnQuantityTimesRow.lifted == Tryz.prog.liftsFinal)) = true := by kernel_rfl
theorem k7_27 : ((Tryz.prog.make == some Rows.fnQuantityTimesRow.make)) = true := by kernel_rfl
theorem k7_28 : ((Rows.fnQuantityTimesRow.kinds == (if Rows.fnQuantityTimesRow.domain.isEmpty then [] else Tryz.f7.params.toList.map fun t => match Tryz.prog.underlying t with | some (.int k) => some k | _ => none))) = true := by kernel_rfl
theorem k7_29 : ((Rows.fnQuantityTimesRow.pinned == Rows.fnQuantityTimesRow.pinnedBy)) = true := by kernel_rfl
theorem k7_30 : ((Rows.fnQuantityTimesRow.veiled == (Tryz.f7.params.toList ++ Rows.fnQuantityTimesSpec.plain.varTypes Tryz.prog ++ Tryz.f7.resultTypes.toList).any (Tryz.prog.veiledRec ·))) = true := by kernel_rfl
theorem k7_31 : (Rows.fnQuantityTimesRow.veiledFits Tryz.prog Tryz.f7.params.toList (Tryz.f7.params.toList ++ Rows.fnQuantityTimesSpec.plain.varTypes Tryz.prog ++ Tryz.f7.resultTypes.toList)) = true := by kernel_rfl
theorem closed7 : joinedFacts Tryz.prog 7 Tryz.f7 Rows.fnQuantityTimesSpec Rows.fnQuantityTimesRow = true := by
  unfold joinedFacts
  simp only [Bool.and_eq_true]
  exact ⟨⟨⟨⟨⟨⟨⟨⟨⟨⟨⟨⟨⟨⟨⟨⟨⟨⟨⟨⟨⟨⟨⟨⟨⟨⟨⟨⟨⟨⟨⟨k7_0, k7_1⟩, k7_2⟩, k7_3⟩, k7_4⟩, k7_5⟩, k7_6⟩, k7_7⟩, k7_8⟩, k7_9⟩, k7_10⟩, k7_11⟩, k7_12⟩, k7_13⟩, k7_14⟩, k7_15⟩, k7_16⟩, k7_17⟩, k7_18⟩, k7_19⟩, k7_20⟩, k7_21⟩, k7_22⟩, k7_23⟩, k7_24⟩, k7_25⟩, k7_26⟩, k7_27⟩, k7_28⟩, k7_29⟩, k7_30⟩, k7_31⟩


theorem cf1 : Rows.fnQuantityTimesRow.wfByText (OpenSpec.ofChange Rows.fnQuantityTimesSpec) = true := by kernel_rfl
theorem cf2 : Tryz.pinned.checked.prog.mainIs = some (true, "6f4571e43cca149963d0f381ef86e9577ee22ff786b5c003abeb38887eec5513".toList) := by kernel_rfl
theorem cf3 : Tryz.prog.funcNamed "pub-stockroom/laws.FnQuantityTimes" = some 7 := by kernel_rfl
theorem cf4 : true = Tryz.prog.looks [] := by kernel_rfl
theorem cf5 : ([23, 2].all fun u => !Tryz.prog.wantsStandIn u) = true := by kernel_rfl
theorem cf6 : false = Rows.fnQuantityTimesRow.goesBy Tryz.prog := by kernel_rfl
end Go.Proofs.YtcpjclakdpjjfaaGreatDoor
