/-
  DERIVED. GIVEN WITH THE SEED: THE CARDS: each row of Qxb6608942aDoorRows.lean that lists a variable, with what it lists TIED to the program's text (the seventh form; the later family's looks); each row that meets fmt, with fmt's text TOLD by the authors' own Lean function (tested against real Go, not proved from fmt's source: count such statements apart). THE CARD IS WHAT COUNTS. Prove the row's statement (the work); the ties are given (Qxb6608942aDoorTie.lean); close each card by the builder's one call (the guide's Derived/Test/ToyasCard.lean, 'card_holds'). Laid BY PROGRAM, IN A SANDBOX (cutbox-door.mjs). By AI agents, Wed Nov 11 2026. No macro, syntax, notation, axiom, sorry.
-/
import Derived.Test.Qxb6608942aDoorRows
import GoSem.ClaimSeven
namespace Go.Proofs.Qxb6608942aDoor
namespace Rows

/-- THE TIED CARD OF 'zzlaws_internal_ring_b1.FnOrderMeetsNodesByClockwiseDistance'. -/
def fnOrderMeetsNodesByClockwiseDistanceCard : Claim7 := { stood := { row := fnOrderMeetsNodesByClockwiseDistanceRow, standIns := [], harness := (true, "be0b09a5e43834245306ae72f0d223d0e67679e7f58da54f253eaf9963e9b59b"), looks := true }, kinds := [], alts := [], laidByText := true, laidKinds := [.data, .data, .data, .sentinel, .sentinel], laidTests := true, laidLooks := .later }
def FnOrderMeetsNodesByClockwiseDistanceCardSaid : Prop := Claim7.holds Tryd.pinned (.plain (OpenSpec.ofChange fnOrderMeetsNodesByClockwiseDistanceSpec)) fnOrderMeetsNodesByClockwiseDistanceCard

/-- THE TIED CARD OF 'zzlaws_internal_ring_b1.FnOrderSameWithinGap'. -/
def fnOrderSameWithinGapCard : Claim7 := { stood := { row := fnOrderSameWithinGapRow, standIns := [], harness := (true, "be0b09a5e43834245306ae72f0d223d0e67679e7f58da54f253eaf9963e9b59b"), looks := true }, kinds := [], alts := [], laidByText := true, laidKinds := [.data, .data, .data, .sentinel, .sentinel], laidTests := true, laidLooks := .later }
def FnOrderSameWithinGapCardSaid : Prop := Claim7.holds Tryd.pinned (.plain (OpenSpec.ofChange fnOrderSameWithinGapSpec)) fnOrderSameWithinGapCard

/-- THE TIED CARD OF 'zzlaws_internal_ring_b1.FnHoldersAreFirstUsableInOrder'. -/
def fnHoldersAreFirstUsableInOrderCard : Claim7 := { stood := { row := fnHoldersAreFirstUsableInOrderRow, standIns := [], harness := (true, "be0b09a5e43834245306ae72f0d223d0e67679e7f58da54f253eaf9963e9b59b"), looks := true }, kinds := [], alts := [], laidByText := true, laidKinds := [.data, .data, .data, .sentinel, .sentinel], laidTests := true, laidLooks := .later }
def FnHoldersAreFirstUsableInOrderCardSaid : Prop := Claim7.holds Tryd.pinned (.plain (OpenSpec.ofChange fnHoldersAreFirstUsableInOrderSpec)) fnHoldersAreFirstUsableInOrderCard

/-- THE TIED CARD OF 'zzlaws_internal_ring_b1.FnHoldersMoveLeastWhenNodeLost'. -/
def fnHoldersMoveLeastWhenNodeLostCard : Claim7 := { stood := { row := fnHoldersMoveLeastWhenNodeLostRow, standIns := [], harness := (true, "be0b09a5e43834245306ae72f0d223d0e67679e7f58da54f253eaf9963e9b59b"), looks := true }, kinds := [], alts := [], laidByText := true, laidKinds := [.data, .data, .data, .sentinel, .sentinel], laidTests := true, laidLooks := .later }
def FnHoldersMoveLeastWhenNodeLostCardSaid : Prop := Claim7.holds Tryd.pinned (.plain (OpenSpec.ofChange fnHoldersMoveLeastWhenNodeLostSpec)) fnHoldersMoveLeastWhenNodeLostCard

/-- THE TIED CARD OF 'zzlaws_internal_ring_b1.FnReplicasCountsHolders'. -/
def fnReplicasCountsHoldersCard : Claim7 := { stood := { row := fnReplicasCountsHoldersRow, standIns := [], harness := (true, "be0b09a5e43834245306ae72f0d223d0e67679e7f58da54f253eaf9963e9b59b"), looks := true }, kinds := [], alts := [], laidByText := true, laidKinds := [.data, .data, .data, .sentinel, .sentinel], laidTests := true, laidLooks := .later }
def FnReplicasCountsHoldersCardSaid : Prop := Claim7.holds Tryd.pinned (.plain (OpenSpec.ofChange fnReplicasCountsHoldersSpec)) fnReplicasCountsHoldersCard

/-- THE TIED CARD OF 'zzlaws_internal_ring_b1.FnWalkStopsAtFirstRefusal'. -/
def fnWalkStopsAtFirstRefusalCard : Claim7 := { stood := { row := fnWalkStopsAtFirstRefusalRow, standIns := [], harness := (true, "be0b09a5e43834245306ae72f0d223d0e67679e7f58da54f253eaf9963e9b59b"), looks := true }, kinds := [], alts := [], laidByText := true, laidKinds := [.data, .data, .data, .sentinel, .sentinel], laidTests := true, laidLooks := .later }
def FnWalkStopsAtFirstRefusalCardSaid : Prop := Claim7.holds Tryd.pinned (.plain (OpenSpec.ofChange fnWalkStopsAtFirstRefusalSpec)) fnWalkStopsAtFirstRefusalCard

/-- THE TIED CARD OF 'zzlaws_internal_ring_b1.FnWalkStopsAtEarlierOfTwo'. -/
def fnWalkStopsAtEarlierOfTwoCard : Claim7 := { stood := { row := fnWalkStopsAtEarlierOfTwoRow, standIns := [], harness := (true, "be0b09a5e43834245306ae72f0d223d0e67679e7f58da54f253eaf9963e9b59b"), looks := true }, kinds := [], alts := [], laidByText := true, laidKinds := [.data, .data, .data, .sentinel, .sentinel], laidTests := true, laidLooks := .later }
def FnWalkStopsAtEarlierOfTwoCardSaid : Prop := Claim7.holds Tryd.pinned (.plain (OpenSpec.ofChange fnWalkStopsAtEarlierOfTwoSpec)) fnWalkStopsAtEarlierOfTwoCard
end Rows
end Go.Proofs.Qxb6608942aDoor
