/-
  No cell of these rows narrows 'for every input' (looked for: loops, veiled, ifaces, maps, wideKeys, modest, calm, conditions, laid).
  DERIVED. THE GIVEN ROWS OF THIS SEAT. 1 by the template 'for every input the law returns true; each argument reads behind the call as it read before'; 0 by the template 'total and deterministic' (their statements: YbulkdhfmTotals.lean).
  GIVEN WITH THE SEED: the statements are not yours to turn. If you find one false, say at which input.
  Laid BY PROGRAM, IN A SANDBOX (cutbox-rows.mjs): the forced cells as the released guide's own fill.sh prints them over the translation 0d44fc6bee1ca661… (all of the seat's roots in one cut). By AI agents, Wed Nov 11 2026. No macro, syntax, notation, axiom, sorry.
-/
import Derived.Test.YbulkdhfmChecked
import GoSem.Claim
import GoSem.ClaimJoined
import GoSem.ClaimMapViews
import Derived.JoinedTies
import Derived.KernelRfl
namespace Go.Proofs.Ybulkdhfm
/- THE CELL 'sum', in the pinned program and in every row, IS THE sha256 OF THE DUMP (.gsa) THAT YbulkdhfmProg.lean LOADS. Nothing in Lean hashes anything: it is a label: what it is worth is what the hold of that sum in a sandbox is worth. -/
noncomputable def Yba.pinned : Pinned := { name := "ybulkdhfm", sum := "0d44fc6bee1ca66188b800e95a19730d8176452ce7c7af9658cceb3c8fb2e493", checked := Yba.checked }
namespace Rows
def none {H : Type} : Left H := { results := [], args := [] }

/-- 'calm-valve.LawS5420AWhole': WHATEVER THE INPUT: true; the input reads as it did. -/
def lawS5420AWholeSpec : ChangeSpec := { name := "lawS5420AWhole", fn := fun _ => fun
  | [d1, d2, d3, d4, d5, d6, d7, d8, d9] => { results := [.lit (.bool true)], args := [d1, d2, d3, d4, d5, d6, d7, d8, d9] }
  | _ => none }
def lawS5420AWholeRow : OpenClaim := { program := "ybulkdhfm", sum := "0d44fc6bee1ca66188b800e95a19730d8176452ce7c7af9658cceb3c8fb2e493", func := "example.com/calm-valve/calm-valve.LawS5420AWhole", spec := "lawS5420AWhole", inPlace := ["math.Float64frombits", "sync/atomic.StoreUint64", "math.Float64bits", "sync/atomic.LoadUint64"], unfollowed := true, recurses := true, apart := false }
def LawS5420AWholeSaid : Prop := lawS5420AWholeRow.holds Yba.pinned (OpenSpec.ofChange lawS5420AWholeSpec)

/-- ITS FALSE NEIGHBOUR: 'it returns false'. Refute it at one input. -/
def lawS5420AWholeWrong : ChangeSpec := { name := "lawS5420AWhole", fn := fun _ => fun
  | [d1, d2, d3, d4, d5, d6, d7, d8, d9] => { results := [.lit (.bool false)], args := [d1, d2, d3, d4, d5, d6, d7, d8, d9] }
  | _ => none }
def LawS5420AWholeWrongFalsely : Prop := lawS5420AWholeRow.holds Yba.pinned (OpenSpec.ofChange lawS5420AWholeWrong)

end Rows
end Go.Proofs.Ybulkdhfm
