/-
  No cell of these rows narrows 'for every input' (looked for: loops, veiled, ifaces, maps, wideKeys, modest, calm, conditions, laid).
  DERIVED. THE GIVEN ROWS OF THIS SEAT. 2 by the template 'for every input the law returns true; each argument reads behind the call as it read before'; 0 by the template 'total and deterministic' (their statements: YbulkdhekTotals.lean).
  GIVEN WITH THE SEED: the statements are not yours to turn. If you find one false, say at which input.
  Laid BY PROGRAM, IN A SANDBOX (cutbox-rows.mjs): the forced cells as the released guide's own fill.sh prints them over the translation 27f7dc361e5a3447… (all of the seat's roots in one cut). By AI agents, Wed Nov 11 2026. No macro, syntax, notation, axiom, sorry.
-/
import Derived.Test.YbulkdhekChecked
import GoSem.Claim
import GoSem.ClaimJoined
import GoSem.ClaimMapViews
import Derived.JoinedTies
import Derived.KernelRfl
namespace Go.Proofs.Ybulkdhek
/- THE CELL 'sum', in the pinned program and in every row, IS THE sha256 OF THE DUMP (.gsa) THAT YbulkdhekProg.lean LOADS. Nothing in Lean hashes anything: it is a label: what it is worth is what the hold of that sum in a sandbox is worth. -/
noncomputable def Yba.pinned : Pinned := { name := "ybulkdhek", sum := "27f7dc361e5a34479c3d9f9044b635c12ec030140b49c24223000aac9eba6ef4", checked := Yba.checked }
namespace Rows
def none {H : Type} : Left H := { results := [], args := [] }

/-- 'tierstamp.LawS5418BWhole': WHATEVER THE INPUT: true; the input reads as it did. -/
def lawS5418BWholeSpec : ChangeSpec := { name := "lawS5418BWhole", fn := fun _ => fun
  | [d1, d2, d3, d4, d5] => { results := [.lit (.bool true)], args := [d1, d2, d3, d4, d5] }
  | _ => none }
def lawS5418BWholeRow : OpenClaim := { program := "ybulkdhek", sum := "27f7dc361e5a34479c3d9f9044b635c12ec030140b49c24223000aac9eba6ef4", func := "example.com/tierstamp/tierstamp.LawS5418BWhole", spec := "lawS5418BWhole", unfollowed := true, recurses := true, apart := false }
def LawS5418BWholeSaid : Prop := lawS5418BWholeRow.holds Yba.pinned (OpenSpec.ofChange lawS5418BWholeSpec)

/-- ITS FALSE NEIGHBOUR: 'it returns false'. Refute it at one input. -/
def lawS5418BWholeWrong : ChangeSpec := { name := "lawS5418BWhole", fn := fun _ => fun
  | [d1, d2, d3, d4, d5] => { results := [.lit (.bool false)], args := [d1, d2, d3, d4, d5] }
  | _ => none }
def LawS5418BWholeWrongFalsely : Prop := lawS5418BWholeRow.holds Yba.pinned (OpenSpec.ofChange lawS5418BWholeWrong)

/-- 'cluster.LawS5418CWhole': WHATEVER THE INPUT: true; the input reads as it did. -/
def lawS5418CWholeSpec : ChangeSpec := { name := "lawS5418CWhole", fn := fun _ => fun
  | [d1, d2, d3, d4, d5] => { results := [.lit (.bool true)], args := [d1, d2, d3, d4, d5] }
  | _ => none }
def lawS5418CWholeRow : OpenClaim := { program := "ybulkdhek", sum := "27f7dc361e5a34479c3d9f9044b635c12ec030140b49c24223000aac9eba6ef4", func := "example.com/tierstamp/tierstamp/cluster.LawS5418CWhole", spec := "lawS5418CWhole", unfollowed := true, recurses := true, apart := false }
def LawS5418CWholeSaid : Prop := lawS5418CWholeRow.holds Yba.pinned (OpenSpec.ofChange lawS5418CWholeSpec)

/-- ITS FALSE NEIGHBOUR: 'it returns false'. Refute it at one input. -/
def lawS5418CWholeWrong : ChangeSpec := { name := "lawS5418CWhole", fn := fun _ => fun
  | [d1, d2, d3, d4, d5] => { results := [.lit (.bool false)], args := [d1, d2, d3, d4, d5] }
  | _ => none }
def LawS5418CWholeWrongFalsely : Prop := lawS5418CWholeRow.holds Yba.pinned (OpenSpec.ofChange lawS5418CWholeWrong)

end Rows
end Go.Proofs.Ybulkdhek
