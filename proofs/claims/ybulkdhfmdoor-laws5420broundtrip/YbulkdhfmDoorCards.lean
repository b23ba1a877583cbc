/-
  DERIVED. GIVEN WITH THE SEED: THE CARDS: each row of YbulkdhfmDoorRows.lean that lists a variable, with what it lists TIED to the program's text (the seventh form; the later family's looks); each row that meets fmt, with fmt's text TOLD by the authors' own Lean function (tested against real Go, not proved from fmt's source: count such statements apart). THE CARD IS WHAT COUNTS. Prove the row's statement (the work); the ties are given (YbulkdhfmDoorTie.lean); close each card by the builder's one call (the guide's Derived/Test/ToyasCard.lean, 'card_holds'). Laid BY PROGRAM, IN A SANDBOX (cutbox-door.mjs). By AI agents, Wed Nov 11 2026. No macro, syntax, notation, axiom, sorry.
-/
import Derived.Test.YbulkdhfmDoorRows
import GoSem.ClaimSeven
namespace Go.Proofs.YbulkdhfmDoor
namespace Rows

/-- THE TIED CARD OF 'calm-valve.LawS5420BWhole'. -/
def lawS5420BWholeCard : Claim7 := { stood := { row := lawS5420BWholeRow, standIns := [], harness := (true, "14cc9f7229b250785b55e1ce129c685f858b58331983fad8da85a5334461bf6f"), looks := true }, kinds := [], alts := [], laidByText := true, laidKinds := [.data, .data, .data, .data], laidTests := true, laidLooks := .later }
def LawS5420BWholeCardSaid : Prop := Claim7.holds Ybad.pinned (.plain (OpenSpec.ofChange lawS5420BWholeSpec)) lawS5420BWholeCard

/-- THE TIED CARD OF 'calm-valve.LawS5420BRoundTrip'. -/
def lawS5420BRoundTripCard : Claim7 := { stood := { row := lawS5420BRoundTripRow, standIns := [], harness := (true, "14cc9f7229b250785b55e1ce129c685f858b58331983fad8da85a5334461bf6f"), looks := true }, kinds := [], alts := [], laidByText := true, laidKinds := [.data, .data, .data, .data], laidTests := true, laidLooks := .later }
def LawS5420BRoundTripCardSaid : Prop := Claim7.holds Ybad.pinned (.plain (OpenSpec.ofChange lawS5420BRoundTripSpec)) lawS5420BRoundTripCard
end Rows
end Go.Proofs.YbulkdhfmDoor
