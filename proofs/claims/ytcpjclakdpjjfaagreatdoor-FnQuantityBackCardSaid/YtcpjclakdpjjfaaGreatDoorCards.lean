/-
  DERIVED. GIVEN WITH THE SEED: THE CARDS: each row of YtcpjclakdpjjfaaGreatDoorRows.lean that lists a variable, with what it lists TIED to the program's text (the seventh form; the later family's looks); each row that meets fmt, with fmt's text TOLD by the authors' own Lean function (tested against real Go, not proved from fmt's source: count such statements apart). THE CARD IS WHAT COUNTS. Prove the row's statement (the work); the ties are given (YtcpjclakdpjjfaaGreatDoorTie.lean); close each card by the builder's one call (the guide's Derived/Test/ToyasCard.lean, 'card_holds'). Laid BY PROGRAM, IN A SANDBOX (cutbox-door.mjs). By AI agents, Wed Nov 11 2026. No macro, syntax, notation, axiom, sorry.
-/
import Derived.Test.YtcpjclakdpjjfaaGreatDoorRows
import GoSem.ClaimSeven
namespace Go.Proofs.YtcpjclakdpjjfaaGreatDoor
namespace Rows

/-- THE TIED CARD OF 'laws.FnQuantityReads'. -/
def fnQuantityReadsCard : Claim7 := { stood := { row := fnQuantityReadsRow, standIns := [], harness := (true, "6f4571e43cca149963d0f381ef86e9577ee22ff786b5c003abeb38887eec5513"), looks := true }, kinds := [], alts := [], laidByText := true, laidKinds := [.data, .data, .data, .data, .sentinel, .sentinel, .sentinel, .sentinel, .sentinel, .data, .data, .data, .data, .data, .sentinel, .sentinel, .sentinel, .pinned], laidTests := true, laidLooks := .later }
def FnQuantityReadsCardSaid : Prop := Claim7.holds Tryz.pinned (.plain (OpenSpec.ofChange fnQuantityReadsSpec)) fnQuantityReadsCard

/-- THE TIED CARD OF 'laws.FnQuantityCanon'. -/
def fnQuantityCanonCard : Claim7 := { stood := { row := fnQuantityCanonRow, standIns := [], harness := (true, "6f4571e43cca149963d0f381ef86e9577ee22ff786b5c003abeb38887eec5513"), looks := true }, kinds := [], alts := [], laidByText := true, laidKinds := [.data, .data, .data, .data, .sentinel, .sentinel, .sentinel, .sentinel, .sentinel, .data, .data, .data, .data, .data, .sentinel, .sentinel, .sentinel, .pinned], laidTests := true, laidLooks := .later }
def FnQuantityCanonCardSaid : Prop := Claim7.holds Tryz.pinned (.plain (OpenSpec.ofChange fnQuantityCanonSpec)) fnQuantityCanonCard

/-- THE TIED CARD OF 'laws.FnQuantityRounds'. -/
def fnQuantityRoundsCard : Claim7 := { stood := { row := fnQuantityRoundsRow, standIns := [], harness := (true, "6f4571e43cca149963d0f381ef86e9577ee22ff786b5c003abeb38887eec5513"), looks := true }, kinds := [], alts := [], laidByText := true, laidKinds := [.data, .data, .data, .data, .sentinel, .sentinel, .sentinel, .sentinel, .sentinel, .data, .data, .data, .data, .data, .sentinel, .sentinel, .sentinel, .pinned], laidTests := true, laidLooks := .later }
def FnQuantityRoundsCardSaid : Prop := Claim7.holds Tryz.pinned (.plain (OpenSpec.ofChange fnQuantityRoundsSpec)) fnQuantityRoundsCard

/-- THE TIED CARD OF 'laws.FnQuantityCmp'. -/
def fnQuantityCmpCard : Claim7 := { stood := { row := fnQuantityCmpRow, standIns := [], harness := (true, "6f4571e43cca149963d0f381ef86e9577ee22ff786b5c003abeb38887eec5513"), looks := true }, kinds := [], alts := [], laidByText := true, laidKinds := [.data, .data, .data, .data, .sentinel, .sentinel, .sentinel, .sentinel, .sentinel, .data, .data, .data, .data, .data, .sentinel, .sentinel, .sentinel, .pinned], laidTests := true, laidLooks := .later }
def FnQuantityCmpCardSaid : Prop := Claim7.holds Tryz.pinned (.plain (OpenSpec.ofChange fnQuantityCmpSpec)) fnQuantityCmpCard

/-- THE TIED CARD OF 'laws.FnQuantityTimes'. -/
def fnQuantityTimesCard : Claim7 := { stood := { row := fnQuantityTimesRow, standIns := [], harness := (true, "6f4571e43cca149963d0f381ef86e9577ee22ff786b5c003abeb38887eec5513"), looks := true }, kinds := [], alts := [], laidByText := true, laidKinds := [.data, .data, .data, .data, .sentinel, .sentinel, .sentinel, .sentinel, .sentinel, .data, .data, .data, .data, .data, .sentinel, .sentinel, .sentinel, .pinned], laidTests := true, laidLooks := .later }
def FnQuantityTimesCardSaid : Prop := Claim7.holds Tryz.pinned (.plain (OpenSpec.ofChange fnQuantityTimesSpec)) fnQuantityTimesCard

/-- THE TIED CARD OF 'laws.FnQuantityBack'. -/
def fnQuantityBackCard : Claim7 := { stood := { row := fnQuantityBackRow, standIns := [], harness := (true, "6f4571e43cca149963d0f381ef86e9577ee22ff786b5c003abeb38887eec5513"), looks := true }, kinds := [], alts := [], laidByText := true, laidKinds := [.data, .data, .data, .data, .sentinel, .sentinel, .sentinel, .sentinel, .sentinel, .data, .data, .data, .data, .data, .sentinel, .sentinel, .sentinel, .pinned], laidTests := true, laidLooks := .later }
def FnQuantityBackCardSaid : Prop := Claim7.holds Tryz.pinned (.plain (OpenSpec.ofChange fnQuantityBackSpec)) fnQuantityBackCard

/-- THE SECOND FORM's CARD OF 'laws.FnQuantityReads'. -/
def fnQuantityReadsUptoCard : Claim7 := { stood := { row := fnQuantityReadsUptoRow, standIns := [], harness := (true, "6f4571e43cca149963d0f381ef86e9577ee22ff786b5c003abeb38887eec5513"), looks := true }, kinds := [], alts := [], laidByText := true, laidKinds := [.data, .data, .data, .data, .sentinel, .sentinel, .sentinel, .sentinel, .sentinel, .data, .data, .data, .data, .data, .sentinel, .sentinel, .sentinel, .pinned], laidTests := true, laidLooks := .later }
def FnQuantityReadsUptoCardSaid : Prop := Claim7.holds Tryz.pinned (.plain (OpenSpec.upto fnQuantityReadsSpec)) fnQuantityReadsUptoCard

/-- THE SECOND FORM's CARD OF 'laws.FnQuantityCanon'. -/
def fnQuantityCanonUptoCard : Claim7 := { stood := { row := fnQuantityCanonUptoRow, standIns := [], harness := (true, "6f4571e43cca149963d0f381ef86e9577ee22ff786b5c003abeb38887eec5513"), looks := true }, kinds := [], alts := [], laidByText := true, laidKinds := [.data, .data, .data, .data, .sentinel, .sentinel, .sentinel, .sentinel, .sentinel, .data, .data, .data, .data, .data, .sentinel, .sentinel, .sentinel, .pinned], laidTests := true, laidLooks := .later }
def FnQuantityCanonUptoCardSaid : Prop := Claim7.holds Tryz.pinned (.plain (OpenSpec.upto fnQuantityCanonSpec)) fnQuantityCanonUptoCard

/-- THE SECOND FORM's CARD OF 'laws.FnQuantityRounds'. -/
def fnQuantityRoundsUptoCard : Claim7 := { stood := { row := fnQuantityRoundsUptoRow, standIns := [], harness := (true, "6f4571e43cca149963d0f381ef86e9577ee22ff786b5c003abeb38887eec5513"), looks := true }, kinds := [], alts := [], laidByText := true, laidKinds := [.data, .data, .data, .data, .sentinel, .sentinel, .sentinel, .sentinel, .sentinel, .data, .data, .data, .data, .data, .sentinel, .sentinel, .sentinel, .pinned], laidTests := true, laidLooks := .later }
def FnQuantityRoundsUptoCardSaid : Prop := Claim7.holds Tryz.pinned (.plain (OpenSpec.upto fnQuantityRoundsSpec)) fnQuantityRoundsUptoCard

/-- THE SECOND FORM's CARD OF 'laws.FnQuantityCmp'. -/
def fnQuantityCmpUptoCard : Claim7 := { stood := { row := fnQuantityCmpUptoRow, standIns := [], harness := (true, "6f4571e43cca149963d0f381ef86e9577ee22ff786b5c003abeb38887eec5513"), looks := true }, kinds := [], alts := [], laidByText := true, laidKinds := [.data, .data, .data, .data, .sentinel, .sentinel, .sentinel, .sentinel, .sentinel, .data, .data, .data, .data, .data, .sentinel, .sentinel, .sentinel, .pinned], laidTests := true, laidLooks := .later }
def FnQuantityCmpUptoCardSaid : Prop := Claim7.holds Tryz.pinned (.plain (OpenSpec.upto fnQuantityCmpSpec)) fnQuantityCmpUptoCard

/-- THE SECOND FORM's CARD OF 'laws.FnQuantityTimes'. -/
def fnQuantityTimesUptoCard : Claim7 := { stood := { row := fnQuantityTimesUptoRow, standIns := [], harness := (true, "6f4571e43cca149963d0f381ef86e9577ee22ff786b5c003abeb38887eec5513"), looks := true }, kinds := [], alts := [], laidByText := true, laidKinds := [.data, .data, .data, .data, .sentinel, .sentinel, .sentinel, .sentinel, .sentinel, .data, .data, .data, .data, .data, .sentinel, .sentinel, .sentinel, .pinned], laidTests := true, laidLooks := .later }
def FnQuantityTimesUptoCardSaid : Prop := Claim7.holds Tryz.pinned (.plain (OpenSpec.upto fnQuantityTimesSpec)) fnQuantityTimesUptoCard

/-- THE SECOND FORM's CARD OF 'laws.FnQuantityBack'. -/
def fnQuantityBackUptoCard : Claim7 := { stood := { row := fnQuantityBackUptoRow, standIns := [], harness := (true, "6f4571e43cca149963d0f381ef86e9577ee22ff786b5c003abeb38887eec5513"), looks := true }, kinds := [], alts := [], laidByText := true, laidKinds := [.data, .data, .data, .data, .sentinel, .sentinel, .sentinel, .sentinel, .sentinel, .data, .data, .data, .data, .data, .sentinel, .sentinel, .sentinel, .pinned], laidTests := true, laidLooks := .later }
def FnQuantityBackUptoCardSaid : Prop := Claim7.holds Tryz.pinned (.plain (OpenSpec.upto fnQuantityBackSpec)) fnQuantityBackUptoCard
end Rows
end Go.Proofs.YtcpjclakdpjjfaaGreatDoor
