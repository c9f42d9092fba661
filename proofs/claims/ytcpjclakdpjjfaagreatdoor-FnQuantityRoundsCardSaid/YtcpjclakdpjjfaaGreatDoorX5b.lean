/- Closed facts of the row and of the card of FnQuantityRounds, one by one. -/
import Derived.Test.YtcpjclakdpjjfaaGreatDoorTie
import Derived.Test.YtcpjclakdpjjfaaGreatDoorCards
import Derived.SevenTiedAt
import Derived.KernelRfl
namespace Go.Proofs.YtcpjclakdpjjfaaGreatDoor
open Go
set_option maxRecDepth 100000
theorem k5_0 : (Rows.fnQuantityRoundsRow.wf (OpenSpec.ofChange Rows.fnQuantityRoundsSpec)) = true := by kernel_rfl
theorem k5_1 : (laidOutB Tryz.prog) = true := by kernel_rfl
theorem k5_2 : (mapsRowed Tryz.prog) = true := by kernel_rfl
theorem k5_3 : (Tryz.f5.params.all (Tryz.prog.readableRec ·)) = true := by kernel_rfl
theorem k5_4 : (namedTie Tryz.prog Rows.fnQuantityRoundsRow.named Rows.fnQuantityRoundsSpec.vars) = true := by kernel_rfl
theorem k5_5 : ((Rows.fnQuantityRoundsRow.stops == [])) = true := by kernel_rfl
theorem k5_6 : ((Tryz.prog.stops == [])) = true := by kernel_rfl
theorem k5_7 : ((Rows.fnQuantityRoundsRow.knobs == [])) = true := by kernel_rfl
theorem k5_8 : ((Tryz.prog.stopKnobs == [])) = true := by kernel_rfl
theorem k5_9 : ((Rows.fnQuantityRoundsRow.inPlace == Tryz.prog.inPlace 5)) = true := by kernel_rfl
theorem k5_10 : ((Rows.fnQuantityRoundsRow.unfollowed == Tryz.prog.unfollowed 5)) = true := by kernel_rfl
theorem k5_11 : ((Rows.fnQuantityRoundsRow.recurses == Tryz.prog.recurses 5)) = true := by kernel_rfl
theorem k5_12 : ((Rows.fnQuantityRoundsRow.named == Tryz.prog.varsNamed 5)) = true := by kernel_rfl
theorem k5_13 : ((Rows.fnQuantityRoundsRow.maps == (Tryz.f5.params.toList ++ Rows.fnQuantityRoundsSpec.plain.varTypes Tryz.prog).any (Tryz.prog.mapsRec ·))) = true := by kernel_rfl
theorem k5_14 : ((Rows.fnQuantityRoundsRow.ifaces == (Tryz.f5.params.toList ++ Rows.fnQuantityRoundsSpec.plain.varTypes Tryz.prog).any (Tryz.prog.ifacesRec ·))) = true := by kernel_rfl
theorem k5_15 : ((Rows.fnQuantityRoundsRow.mapsOut == Tryz.prog.mapsAmong Tryz.f5.resultTypes.toList)) = true := by kernel_rfl
theorem k5_16 : ((Rows.fnQuantityRoundsRow.loops == (Tryz.f5.params.toList ++ Rows.fnQuantityRoundsSpec.plain.varTypes Tryz.prog).any (Tryz.prog.loopsFrom ·))) = true := by kernel_rfl
theorem k5_17 : ((Rows.fnQuantityRoundsRow.wideKeys == (Tryz.f5.params.toList ++ Rows.fnQuantityRoundsSpec.plain.varTypes Tryz.prog ++ Tryz.f5.resultTypes.toList).any (Tryz.prog.wideKeysFrom ·))) = true := by kernel_rfl
theorem k5_18 : (Rows.fnQuantityRoundsSpec.vars.all (Tryz.prog.varReadable ·)) = true := by kernel_rfl
theorem k5_19 : (Tryz.f5.resultTypes.all (fun t => Tryz.prog.readableRec t && decide (t < Tryz.prog.types.size))) = true := by kernel_rfl
theorem k5_20 : ((Rows.fnQuantityRoundsRow.ifacesOut == Tryz.f5.resultTypes.toList.any (Tryz.prog.ifacesRec ·))) = true := by kernel_rfl
theorem k5_21 : ((Rows.fnQuantityRoundsRow.loopsOut == Tryz.f5.resultTypes.toList.any (Tryz.prog.loopsFrom ·))) = true := by kernel_rfl
theorem k5_22 : ((Rows.fnQuantityRoundsRow.plainKeys == Tryz.prog.plainKeys)) = true := by kernel_rfl
theorem k5_23 : (Rows.fnQuantityRoundsRow.shortTexts.isNone) = true := by kernel_rfl
theorem k5_24 : (Tryz.prog.stopsHeard) = true := by kernel_rfl
theorem k5_25 : (Tryz.prog.mayEnter) = true := by kernel_rfl
theorem k5_26 : ((Rows.fnQuantityRoundsRow.lifted == Tryz.prog.liftsFinal)) = true := by kernel_rfl
theorem k5_27 : ((Tryz.prog.make == some Rows.fnQuantityRoundsRow.make)) = true := by kernel_rfl
theorem k5_28 : ((Rows.fnQuantityRoundsRow.kinds == (if Rows.fnQuantityRoundsRow.domain.isEmpty then [] else Tryz.f5.params.toList.map fun t => match Tryz.prog.underlying t with | some (.int k) => some k | _ => none))) = true := by kernel_rfl
theorem k5_29 : ((Rows.fnQuantityRoundsRow.pinned == Rows.fnQuantityRoundsRow.pinnedBy)) = true := by kernel_rfl
theorem k5_30 : ((Rows.fnQuantityRoundsRow.veiled == (Tryz.f5.params.toList ++ Rows.fnQuantityRoundsSpec.plain.varTypes Tryz.prog ++ Tryz.f5.resultTypes.toList).any (Tryz.prog.veiledRec ·))) = true := by kernel_rfl
theorem k5_31 : (Rows.fnQuantityRoundsRow.veiledFits Tryz.prog Tryz.f5.params.toList (Tryz.f5.params.toList ++ Rows.fnQuantityRoundsSpec.plain.varTypes Tryz.prog ++ Tryz.f5.resultTypes.toList)) = true := by kernel_rfl
theorem closed5 : joinedFacts Tryz.prog 5 Tryz.f5 Rows.fnQuantityRoundsSpec Rows.fnQuantityRoundsRow = true := by
  unfold joinedFacts
  simp only [Bool.and_eq_true]
  exact ⟨⟨⟨⟨⟨⟨⟨⟨⟨⟨⟨⟨⟨⟨⟨⟨⟨⟨⟨⟨⟨⟨⟨⟨⟨⟨⟨⟨⟨⟨⟨k5_0, k5_1⟩, k5_2⟩, k5_3⟩, k5_4⟩, k5_5⟩, k5_6⟩, k5_7⟩, k5_8⟩, k5_9⟩, k5_10⟩, k5_11⟩, k5_12⟩, k5_13⟩, k5_14⟩, k5_15⟩, k5_16⟩, k5_17⟩, k5_18⟩, k5_19⟩, k5_20⟩, k5_21⟩, k5_22⟩, k5_23⟩, k5_24⟩, k5_25⟩, k5_26⟩, k5_27⟩, k5_28⟩, k5_29⟩, k5_30⟩, k5_31⟩


theorem cf1 : Rows.fnQuantityRoundsRow.wfByText (OpenSpec.ofChange Rows.fnQuantityRoundsSpec) = true := by kernel_rfl
theorem cf2 : Tryz.pinned.checked.prog.mainIs = some (true, "6f4571e43cca149963d0f381ef86e9577ee22ff786b5c003abeb38887eec5513".toList) := by kernel_rfl
theorem cf3 : Tryz.prog.funcNamed "pub-stockroom/laws.FnQuantityRounds" = some 5 := by kernel_rfl
theorem cf4 : true = Tryz.prog.looks [] := by kernel_rfl
theorem cf5 : ([23, 3].all fun u => !Tryz.prog.wantsStandIn u) = true := by kernel_rfl
theorem cf6 : false = Rows.fnQuantityRoundsRow.goesBy Tryz.prog := by kernel_rfl
end Go.Proofs.YtcpjclakdpjjfaaGreatDoor
