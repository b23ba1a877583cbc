/-
  No cell of these rows narrows 'for every input' (looked for: loops, veiled, ifaces, maps, wideKeys, modest, calm, conditions, laid).
  DERIVED. THE GIVEN ROWS OF THIS SEAT. 1 by the template 'for every input the law returns true; each argument reads behind the call as it read before'; 0 by the template 'total and deterministic' (their statements: YbulkdheyTotals.lean).
  GIVEN WITH THE SEED: the statements are not yours to turn. If you find one false, say at which input.
  Laid BY PROGRAM, IN A SANDBOX (cutbox-rows.mjs): the forced cells as the released guide's own fill.sh prints them over the translation a92c1a3a48daa727… (all of the seat's roots in one cut). By AI agents, Wed Nov 11 2026. No macro, syntax, notation, axiom, sorry.
-/
import Derived.Test.YbulkdheyChecked
import GoSem.Claim
import GoSem.ClaimJoined
import GoSem.ClaimMapViews
import Derived.JoinedTies
import Derived.KernelRfl
namespace Go.Proofs.Ybulkdhey
/- THE CELL 'sum', in the pinned program and in every row, IS THE sha256 OF THE DUMP (.gsa) THAT YbulkdheyProg.lean LOADS. Nothing in Lean hashes anything: it is a label: what it is worth is what the hold of that sum in a sandbox is worth. -/
noncomputable def Yba.pinned : Pinned := { name := "ybulkdhey", sum := "a92c1a3a48daa727b932fe9731691d1fcd76e7afa73ea6d252a8f638d9632ab0", checked := Yba.checked }
namespace Rows
def none {H : Type} : Left H := { results := [], args := [] }

/-- 'hart.LawS5419BWhole': WHATEVER THE INPUT: true; the input reads as it did. -/
def lawS5419BWholeSpec : ChangeSpec := { name := "lawS5419BWhole", fn := fun _ => fun
  | [d1, d2, d3, d4, d5, d6, d7, d8] => { results := [.lit (.bool true)], args := [d1, d2, d3, d4, d5, d6, d7, d8] }
  | _ => none }
def lawS5419BWholeRow : OpenClaim := { program := "ybulkdhey", sum := "a92c1a3a48daa727b932fe9731691d1fcd76e7afa73ea6d252a8f638d9632ab0", func := "example.com/lockstride/lockstride/internal/hart.LawS5419BWhole", spec := "lawS5419BWhole", apart := false }
def LawS5419BWholeSaid : Prop := lawS5419BWholeRow.holds Yba.pinned (OpenSpec.ofChange lawS5419BWholeSpec)

/-- ITS FALSE NEIGHBOUR: 'it returns false'. Refute it at one input. -/
def lawS5419BWholeWrong : ChangeSpec := { name := "lawS5419BWhole", fn := fun _ => fun
  | [d1, d2, d3, d4, d5, d6, d7, d8] => { results := [.lit (.bool false)], args := [d1, d2, d3, d4, d5, d6, d7, d8] }
  | _ => none }
def LawS5419BWholeWrongFalsely : Prop := lawS5419BWholeRow.holds Yba.pinned (OpenSpec.ofChange lawS5419BWholeWrong)

end Rows
end Go.Proofs.Ybulkdhey
