/-
  NARROWER THAN 'FOR EVERY INPUT', by the rows' own cells (each row's printed sentence says how): LawS5422APart: ifaces, laid.
  DERIVED. THE GIVEN ROWS OF THIS SEAT. 1 by the template 'for every input the law returns true; each argument reads behind the call as it read before'; 0 by the template 'total and deterministic' (their statements: YbulkdhgoFmtTotals.lean).
  GIVEN WITH THE SEED: the statements are not yours to turn. If you find one false, say at which input.
  Laid BY PROGRAM, IN A SANDBOX (cutbox-rows.mjs): the forced cells as the released guide's own fill.sh prints them over the translation c7c9b81dd3a48bdd… (all of the seat's roots in one cut). By AI agents, Wed Nov 11 2026. No macro, syntax, notation, axiom, sorry.
-/
import Derived.Test.YbulkdhgoFmtChecked
import GoSem.Claim
import GoSem.ClaimJoined
import GoSem.ClaimMapViews
import Derived.JoinedTies
import Derived.KernelRfl
namespace Go.Proofs.YbulkdhgoFmt
/- THE CELL 'sum', in the pinned program and in every row, IS THE sha256 OF THE DUMP (.gsa) THAT YbulkdhgoFmtProg.lean LOADS. Nothing in Lean hashes anything: it is a label: what it is worth is what the hold of that sum in a sandbox is worth. -/
noncomputable def Ybaf.pinned : Pinned := { name := "ybulkdhgofmt", sum := "c7c9b81dd3a48bdd3cac7c0314b4f74055137f477b45fa9b7003a3e0bd86af18", checked := Ybaf.checked }
namespace Rows
def none {H : Type} : Left H := { results := [], args := [] }

/- WHAT THE LISTED PACKAGE-LEVEL VARIABLES READ AS WHEN THE CALL BEGINS. Each datum BY PROGRAM (the guide's laid-datum.mjs) off the statement by which the dump's own 'gosem.cut.vars' lays the variable. In a bare row this is a premise. The card (YbulkdhgoFmtCards.lean) ties it to the program's text. -/
def laid_example_com_packsight_packsight_pack_errNotFlat {H : Type} : DataW H := .iface "*errors.errorString" (.ptr (.agg [.lit (.string [116, 104, 101, 32, 111, 98, 106, 101, 99, 116, 32, 99, 97, 110, 110, 111, 116, 32, 98, 101, 32, 102, 108, 97, 116, 116, 101, 110, 101, 100])]))

/-- 'pack.LawS5422APart': WHATEVER THE INPUT: true; the input reads as it did. -/
def lawS5422APartSpec : ChangeSpec := { name := "lawS5422APart", vars := ["example.com/packsight/packsight/pack.errNotFlat"], fn := fun _ => fun
  | [d1, d2, d3, d4, d5, d6, g1] => { results := [.lit (.bool true)], args := [d1, d2, d3, d4, d5, d6], vars := [g1] }
  | _ => none }
def lawS5422APartRow : OpenClaim := { program := "ybulkdhgofmt", sum := "c7c9b81dd3a48bdd3cac7c0314b4f74055137f477b45fa9b7003a3e0bd86af18", func := "example.com/packsight/packsight/pack.LawS5422APart", spec := "lawS5422APart", stops := ["fmt.errorf"], inPlace := ["fmt.errorf"], unfollowed := true, recurses := true, named := ["example.com/packsight/packsight/pack.errNotFlat"], ifaces := true, apart := false, laid := [("example.com/packsight/packsight/pack.errNotFlat", laid_example_com_packsight_packsight_pack_errNotFlat)] }
/-- NO THEOREM (fmt's text is open here; it may be false): for the released tool's asking of the row's closed facts alone. THE STATEMENT IS 'LawS5422APartToldSaid' (YbulkdhgoFmtCards.lean). -/
def LawS5422APartFormAsk : Prop := lawS5422APartRow.holds Ybaf.pinned (OpenSpec.ofChange lawS5422APartSpec)

/-- ITS FALSE NEIGHBOUR: 'it returns false'. Refute it at one input. -/
def lawS5422APartWrong : ChangeSpec := { name := "lawS5422APart", vars := ["example.com/packsight/packsight/pack.errNotFlat"], fn := fun _ => fun
  | [d1, d2, d3, d4, d5, d6, g1] => { results := [.lit (.bool false)], args := [d1, d2, d3, d4, d5, d6], vars := [g1] }
  | _ => none }
def LawS5422APartWrongFormAsk : Prop := lawS5422APartRow.holds Ybaf.pinned (OpenSpec.ofChange lawS5422APartWrong)

end Rows
end Go.Proofs.YbulkdhgoFmt
