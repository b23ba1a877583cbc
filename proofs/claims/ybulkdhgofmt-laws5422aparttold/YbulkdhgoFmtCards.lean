/-
  DERIVED. GIVEN WITH THE SEED: THE CARDS: each row of YbulkdhgoFmtRows.lean that lists a variable, with what it lists TIED to the program's text (the seventh form; the later family's looks); each row that meets fmt, with fmt's text TOLD by the authors' own Lean function (tested against real Go, not proved from fmt's source: count such statements apart). THE CARD IS WHAT COUNTS. Prove the row's statement (the work); the ties are given (YbulkdhgoFmtTie.lean); close each card by the builder's one call (the guide's Derived/Test/ToyasCard.lean, 'card_holds'). Laid BY PROGRAM, IN A SANDBOX (cutbox-door.mjs). By AI agents, Wed Nov 11 2026. No macro, syntax, notation, axiom, sorry.
-/
import Derived.Test.YbulkdhgoFmtRows
import GoSem.ClaimSeven
namespace Go.Proofs.YbulkdhgoFmt
namespace Rows

/-- THE TOLD AND TIED CARD OF 'pack.LawS5422APart'. -/
def lawS5422APartCard : Claim7 := { stood := { row := lawS5422APartRow, standIns := [], harness := (true, "0bd1e1c61b4aab0a2b0748f1367a1bc6908687e53986dbf0712d9750a380e900"), looks := false }, told := true, laidByText := true, laidKinds := [.sentinel], laidTests := true, laidLooks := .later, goes := false }
def LawS5422APartToldSaid : Prop := Claim7.holds Ybaf.pinned (.plain (OpenSpec.ofChange lawS5422APartSpec)) lawS5422APartCard
/-- ITS FALSE NEIGHBOUR. Refute it at one input. -/
def LawS5422APartToldWrongFalsely : Prop := Claim7.holds Ybaf.pinned (.plain (OpenSpec.ofChange lawS5422APartWrong)) lawS5422APartCard
end Rows
end Go.Proofs.YbulkdhgoFmt
