/-
  DERIVED. GIVEN WITH THE SEED: THE CARDS: each row of YbulkdhgoDoorRows.lean that lists a variable, with what it lists TIED to the program's text (the seventh form; the later family's looks); each row that meets fmt, with fmt's text TOLD by the authors' own Lean function (tested against real Go, not proved from fmt's source: count such statements apart). THE CARD IS WHAT COUNTS. Prove the row's statement (the work); the ties are given (YbulkdhgoDoorTie.lean); close each card by the builder's one call (the guide's Derived/Test/ToyasCard.lean, 'card_holds'). Laid BY PROGRAM, IN A SANDBOX (cutbox-door.mjs). By AI agents, Wed Nov 11 2026. No macro, syntax, notation, axiom, sorry.
-/
import Derived.Test.YbulkdhgoDoorRows
import GoSem.ClaimSeven
namespace Go.Proofs.YbulkdhgoDoor
namespace Rows

/-- THE TIED CARD OF 'pack.LawS5422CWhole'. -/
def lawS5422CWholeCard : Claim7 := { stood := { row := lawS5422CWholeRow, standIns := [], harness := (true, "d494c018150c8de974f8bea9b3c59b2d6b91bc7ab588a5fc62fd85222c0b2153"), looks := true }, kinds := [], alts := [], laidByText := true, laidKinds := [.sentinel, .sentinel], laidTests := true, laidLooks := .later }
def LawS5422CWholeCardSaid : Prop := Claim7.holds Ybad.pinned (.plain (OpenSpec.ofChange lawS5422CWholeSpec)) lawS5422CWholeCard

/-- THE TIED CARD OF 'pack.LawS5422CAfterFailure'. -/
def lawS5422CAfterFailureCard : Claim7 := { stood := { row := lawS5422CAfterFailureRow, standIns := [], harness := (true, "d494c018150c8de974f8bea9b3c59b2d6b91bc7ab588a5fc62fd85222c0b2153"), looks := true }, kinds := [], alts := [], laidByText := true, laidKinds := [.sentinel, .sentinel, .sentinel], laidTests := true, laidLooks := .later }
def LawS5422CAfterFailureCardSaid : Prop := Claim7.holds Ybad.pinned (.plain (OpenSpec.ofChange lawS5422CAfterFailureSpec)) lawS5422CAfterFailureCard
end Rows
end Go.Proofs.YbulkdhgoDoor
