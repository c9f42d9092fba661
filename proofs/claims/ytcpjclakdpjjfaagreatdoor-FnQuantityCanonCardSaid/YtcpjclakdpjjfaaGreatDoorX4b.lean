/- Closed facts of the row and of the card of FnQuantityCanon, one by one. -/
import Derived.Test.YtcpjclakdpjjfaaGreatDoorTie
import Derived.Test.YtcpjclakdpjjfaaGreatDoorCards
import Derived.SevenTiedAt
import Derived.KernelRfl
namespace Go.Proofs.YtcpjclakdpjjfaaGreatDoor
open Go
set_option maxRecDepth 100000
theorem k4_0 : (Rows.fnQuantityCanonRow.wf (OpenSpec.ofChange Rows.fnQuantityCanonSpec)) = true := by kernel_rfl
theorem k4_1 : (laidOutB Tryz.prog) = true := by kernel_rfl
theorem k4_2 : (mapsRowed Tryz.prog) = true := by kernel_rfl
theorem k4_3 : (Tryz.f4.params.all (Tryz.prog.readableRec ·)) = true := by kernel_rfl
theorem k4_4 : (namedTie Tryz.prog Rows.fnQuantityCanonRow.named Rows.fnQuantityCanonSpec.vars) = true := by kernel_rfl
theorem k4_5 : ((Rows.fnQuantityCanonRow.stops == [])) = true := by kernel_rfl
theorem k4_6 : ((Tryz.prog.stops == [])) = true := by kernel_rfl
theorem k4_7 : ((Rows.fnQuantityCanonRow.knobs == [])) = true := by kernel_rfl
theorem k4_8 : ((Tryz.prog.stopKnobs == [])) = true := by kernel_rfl
theorem k4_9 : ((Rows.fnQuantityCanonRow.inPlace == Tryz.prog.inPlace 4)) = true := by kernel_rfl
theorem k4_10 : ((Rows.fnQuantityCanonRow.unfollowed == Tryz.prog.unfollowed 4)) = true := by kernel_rfl
theorem k4_11 : ((Rows.fnQuantityCanonRow.recurses == Tryz.prog.recurses 4)) = true := by kernel_rfl
theorem k4_12 : ((Rows.fnQuantityCanonRow.named == Tryz.prog.varsNamed 4)) = true := by kernel_rfl
theorem k4_13 : ((Rows.fnQuantityCanonRow.maps == (Tryz.f4.params.toList ++ Rows.fnQuantityCanonSpec.plain.varTypes Tryz.prog).any (Tryz.prog.mapsRec ·))) = true := by kernel_rfl
theorem k4_14 : ((Rows.fnQuantityCanonRow.ifaces == (Tryz.f4.params.toList ++ Rows.fnQuantityCanonSpec.plain.varTypes Tryz.prog).any (Tryz.prog.ifacesRec ·))) = true := by kernel_rfl
theorem k4_15 : ((Rows.fnQuantityCanonRow.mapsOut == Tryz.prog.mapsAmong Tryz.f4.resultTypes.toList)) = true := by kernel_rfl
theorem k4_16 : ((Rows.fnQuantityCanonRow.loops == (Tryz.f4.params.toList ++ Rows.fnQuantityCanonSpec.plain.varTypes Tryz.prog).any (Tryz.prog.loopsFrom ·))) = true := by kernel_rfl
theorem k4_17 : ((Rows.fnQuantityCanonRow.wideKeys == (Tryz.f4.params.toList ++ Rows.fnQuantityCanonSpec.plain.varTypes Tryz.prog ++ Tryz.f4.resultTypes.toList).any (Tryz.prog.wideKeysFrom ·))) = true := by kernel_rfl
theorem k4_18 : (Rows.fnQuantityCanonSpec.vars.all (Tryz.prog.varReadable ·)) = true := by kernel_rfl
theorem k4_19 : (Tryz.f4.resultTypes.all (fun t => Tryz.prog.readableRec t && decide (t < Tryz.prog.types.size))) = true := by kernel_rfl
theorem k4_20 : ((Rows.fnQuantityCanonRow.ifacesOut == Tryz.f4.resultTypes.toList.any (Tryz.prog.ifacesRec ·))) = true := by kernel_rfl
theorem k4_21 : ((Rows.fnQuantityCanonRow.loopsOut == Tryz.f4.resultTypes.toList.any (Tryz.prog.loopsFrom ·))) = true := by kernel_rfl
theorem k4_22 : ((Rows.fnQuantityCanonRow.plainKeys == Tryz.prog.plainKeys)) = true := by kernel_rfl
theorem k4_23 : (Rows.fnQuantityCanonRow.shortTexts.isNone) = true := by kernel_rfl
theorem k4_24 : (Tryz.prog.stopsHeard) = true := by kernel_rfl
theorem k4_25 : (Tryz.prog.mayEnter) = true := by kernel_rfl
theorem k4_26 : ((Rows.fnQuantityCanonRow.lifted == Tryz.prog.liftsFinal)) = true := by kernel_rfl
theorem k4_27 : ((Tryz.prog.make == some Rows.fnQuantityCanonRow.make)) = true := by kernel_rfl
theorem k4_28 : ((Rows.fnQuantityCanonRow.kinds == (if Rows.fnQuantityCanonRow.domain.isEmpty then [] else Tryz.f4.params.toList.map fun t => match Tryz.prog.underlying t with | some (.int k) => some k | _ => none))) = true := by kernel_rfl
theorem k4_29 : ((Rows.fnQuantityCanonRow.pinned == Rows.fnQuantityCanonRow.pinnedBy)) = true := by kernel_rfl
theorem k4_30 : ((Rows.fnQuantityCanonRow.veiled == (Tryz.f4.params.toList ++ Rows.fnQuantityCanonSpec.plain.varTypes Tryz.prog ++ Tryz.f4.resultTypes.toList).any (Tryz.prog.veiledRec ·))) = true := by kernel_rfl
theorem k4_31 : (Rows.fnQuantityCanonRow.veiledFits Tryz.prog Tryz.f4.params.toList (Tryz.f4.params.toList ++ Rows.fnQuantityCanonSpec.plain.varTypes Tryz.prog ++ Tryz.f4.resultTypes.toList)) = true := by kernel_rfl
theorem closed4 : joinedFacts Tryz.prog 4 Tryz.f4 Rows.fnQuantityCanonSpec Rows.fnQuantityCanonRow = true := by
  unfold joinedFacts
  simp only [Bool.and_eq_true]
  exact ⟨⟨⟨⟨⟨⟨⟨⟨⟨⟨⟨⟨⟨⟨⟨⟨⟨⟨⟨⟨⟨⟨⟨⟨⟨⟨⟨⟨⟨⟨⟨k4_0, k4_1⟩, k4_2⟩, k4_3⟩, k4_4⟩, k4_5⟩, k4_6⟩, k4_7⟩, k4_8⟩, k4_9⟩, k4_10⟩, k4_11⟩, k4_12⟩, k4_13⟩, k4_14⟩, k4_15⟩, k4_16⟩, k4_17⟩, k4_18⟩, k4_19⟩, k4_20⟩, k4_21⟩, k4_22⟩, k4_23⟩, k4_24⟩, k4_25⟩, k4_26⟩, k4_27⟩, k4_28⟩, k4_29⟩, k4_30⟩, k4_31⟩


theorem cf1 : Rows.fnQuantityCanonRow.wfByText (OpenSpec.ofChange Rows.fnQuantityCanonSpec) = true := by kernel_rfl
theorem cf2 : Tryz.pinned.checked.prog.mainIs = some (true, "6f4571e43cca149963d0f381ef86e9577ee22ff786b5c003abeb38887eec5513".toList) := by kernel_rfl
theorem cf3 : Tryz.prog.funcNamed "pub-stockroom/laws.FnQuantityCanon" = some 4 := by kernel_rfl
theorem cf4 : true = Tryz.prog.looks [] := by kernel_rfl
theorem cf5 : ([23, 3].all fun u => !Tryz.prog.wantsStandIn u) = true := by kernel_rfl
theorem cf6 : false = Rows.fnQuantityCanonRow.goesBy Tryz.prog := by kernel_rfl
end Go.Proofs.YtcpjclakdpjjfaaGreatDoor
