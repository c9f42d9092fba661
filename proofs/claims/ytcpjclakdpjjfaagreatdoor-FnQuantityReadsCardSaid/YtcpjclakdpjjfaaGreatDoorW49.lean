/- The closed facts of the row of FnQuantityReads. -/
import Derived.Test.YtcpjclakdpjjfaaGreatDoorRows
import Derived.JoinedOf
import Derived.Stop.Joined
import Derived.KernelRfl
namespace Go.Proofs.YtcpjclakdpjjfaaGreatDoor
open Go
set_option maxRecDepth 100000
theorem k3_0 : (Rows.fnQuantityReadsRow.wf (OpenSpec.ofChange Rows.fnQuantityReadsSpec)) = true := by kernel_rfl
theorem k3_1 : (laidOutB Tryz.prog) = true := by kernel_rfl
theorem k3_2 : (mapsRowed Tryz.prog) = true := by kernel_rfl
theorem k3_3 : (Tryz.f3.params.all (Tryz.prog.readableRec ·)) = true := by kernel_rfl
theorem k3_4 : (namedTie Tryz.prog Rows.fnQuantityReadsRow.named Rows.fnQuantityReadsSpec.vars) = true := by kernel_rfl
theorem k3_5 : ((Rows.fnQuantityReadsRow.stops == [])) = true := by kernel_rfl
theorem k3_6 : ((Tryz.prog.stops == [])) = true := by kernel_rfl
theorem k3_7 : ((Rows.fnQuantityReadsRow.knobs == [])) = true := by kernel_rfl
theorem k3_8 : ((Tryz.prog.stopKnobs == [])) = true := by kernel_rfl
theorem k3_9 : ((Rows.fnQuantityReadsRow.inPlace == Tryz.prog.inPlace 3)) = true := by kernel_rfl
theorem k3_10 : ((Rows.fnQuantityReadsRow.unfollowed == Tryz.prog.unfollowed 3)) = true := by kernel_rfl
theorem k3_11 : ((Rows.fnQuantityReadsRow.recurses == Tryz.prog.recurses 3)) = true := by kernel_rfl
theorem k3_12 : ((Rows.fnQuantityReadsRow.named == Tryz.prog.varsNamed 3)) = true := by kernel_rfl
theorem k3_13 : ((Rows.fnQuantityReadsRow.maps == (Tryz.f3.params.toList ++ Rows.fnQuantityReadsSpec.plain.varTypes Tryz.prog).any (Tryz.prog.mapsRec ·))) = true := by kernel_rfl
theorem k3_14 : ((Rows.fnQuantityReadsRow.ifaces == (Tryz.f3.params.toList ++ Rows.fnQuantityReadsSpec.plain.varTypes Tryz.prog).any (Tryz.prog.ifacesRec ·))) = true := by kernel_rfl
theorem k3_15 : ((Rows.fnQuantityReadsRow.mapsOut == Tryz.prog.mapsAmong Tryz.f3.resultTypes.toList)) = true := by kernel_rfl
theorem k3_16 : ((Rows.fnQuantityReadsRow.loops == (Tryz.f3.params.toList ++ Rows.fnQuantityReadsSpec.plain.varTypes Tryz.prog).any (Tryz.prog.loopsFrom ·))) = true := by kernel_rfl
theorem k3_17 : ((Rows.fnQuantityReadsRow.wideKeys == (Tryz.f3.params.toList ++ Rows.fnQuantityReadsSpec.plain.varTypes Tryz.prog ++ Tryz.f3.resultTypes.toList).any (Tryz.prog.wideKeysFrom ·))) = true := by kernel_rfl
theorem k3_18 : (Rows.fnQuantityReadsSpec.vars.all (Tryz.prog.varReadable ·)) = true := by kernel_rfl
theorem k3_19 : (Tryz.f3.resultTypes.all (fun t => Tryz.prog.readableRec t && decide (t < Tryz.prog.types.size))) = true := by kernel_rfl
theorem k3_20 : ((Rows.fnQuantityReadsRow.ifacesOut == Tryz.f3.resultTypes.toList.any (Tryz.prog.ifacesRec ·))) = true := by kernel_rfl
theorem k3_21 : ((Rows.fnQuantityReadsRow.loopsOut == Tryz.f3.resultTypes.toList.any (Tryz.prog.loopsFrom ·))) = true := by kernel_rfl
theorem k3_22 : ((Rows.fnQuantityReadsRow.plainKeys == Tryz.prog.plainKeys)) = true := by kernel_rfl
theorem k3_23 : (Rows.fnQuantityReadsRow.shortTexts.isNone) = true := by kernel_rfl
theorem k3_24 : (Tryz.prog.stopsHeard) = true := by kernel_rfl
theorem k3_25 : (Tryz.prog.mayEnter) = true := by kernel_rfl
theorem k3_26 : ((Rows.fnQuantityReadsRow.lifted == Tryz.prog.liftsFinal)) = true := by kernel_rfl
theorem k3_27 : ((Tryz.prog.make == some Rows.fnQuantityReadsRow.make)) = true := by kernel_rfl
theorem k3_28 : ((Rows.fnQuantityReadsRow.kinds == (if Rows.fnQuantityReadsRow.domain.isEmpty then [] else Tryz.f3.params.toList.map fun t => match Tryz.prog.underlying t with | some (.int k) => some k | _ => none))) = true := by kernel_rfl
theorem k3_29 : ((Rows.fnQuantityReadsRow.pinned == Rows.fnQuantityReadsRow.pinnedBy)) = true := by kernel_rfl
theorem k3_30 : ((Rows.fnQuantityReadsRow.veiled == (Tryz.f3.params.toList ++ Rows.fnQuantityReadsSpec.plain.varTypes Tryz.prog ++ Tryz.f3.resultTypes.toList).any (Tryz.prog.veiledRec ·))) = true := by kernel_rfl
theorem k3_31 : (Rows.fnQuantityReadsRow.veiledFits Tryz.prog Tryz.f3.params.toList (Tryz.f3.params.toList ++ Rows.fnQuantityReadsSpec.plain.varTypes Tryz.prog ++ Tryz.f3.resultTypes.toList)) = true := by kernel_rfl
theorem closed3 : joinedFacts Tryz.prog 3 Tryz.f3 Rows.fnQuantityReadsSpec Rows.fnQuantityReadsRow = true := by
  unfold joinedFacts
  simp only [Bool.and_eq_true]
  exact ⟨⟨⟨⟨⟨⟨⟨⟨⟨⟨⟨⟨⟨⟨⟨⟨⟨⟨⟨⟨⟨⟨⟨⟨⟨⟨⟨⟨⟨⟨⟨k3_0, k3_1⟩, k3_2⟩, k3_3⟩, k3_4⟩, k3_5⟩, k3_6⟩, k3_7⟩, k3_8⟩, k3_9⟩, k3_10⟩, k3_11⟩, k3_12⟩, k3_13⟩, k3_14⟩, k3_15⟩, k3_16⟩, k3_17⟩, k3_18⟩, k3_19⟩, k3_20⟩, k3_21⟩, k3_22⟩, k3_23⟩, k3_24⟩, k3_25⟩, k3_26⟩, k3_27⟩, k3_28⟩, k3_29⟩, k3_30⟩, k3_31⟩

end Go.Proofs.YtcpjclakdpjjfaaGreatDoor
