/-
  NARROWER THAN 'FOR EVERY INPUT', by the rows' own cells (each row's printed sentence says how): LawS5420BWhole: laid · LawS5420BRoundTrip: laid.
  DERIVED. THE GIVEN ROWS OF THIS SEAT. 3 by the template 'for every input the law returns true; each argument reads behind the call as it read before'; 0 by the template 'total and deterministic' (their statements: YbulkdhfmDoorTotals.lean).
  GIVEN WITH THE SEED: the statements are not yours to turn. If you find one false, say at which input.
  Laid BY PROGRAM, IN A SANDBOX (cutbox-rows.mjs): the forced cells as the released guide's own fill.sh prints them over the translation 13fecedfe7b453ee… (all of the seat's roots in one cut). By AI agents, Wed Nov 11 2026. No macro, syntax, notation, axiom, sorry.
-/
import Derived.Test.YbulkdhfmDoorChecked
import GoSem.Claim
import GoSem.ClaimJoined
import GoSem.ClaimMapViews
import Derived.JoinedTies
import Derived.KernelRfl
namespace Go.Proofs.YbulkdhfmDoor
/- THE CELL 'sum', in the pinned program and in every row, IS THE sha256 OF THE DUMP (.gsa) THAT YbulkdhfmDoorProg.lean LOADS. Nothing in Lean hashes anything: it is a label: what it is worth is what the hold of that sum in a sandbox is worth. -/
noncomputable def Ybad.pinned : Pinned := { name := "ybulkdhfmdoor", sum := "13fecedfe7b453ee4400ee2321510855a9d821600774ae3c431ebacb422af0d1", checked := Ybad.checked }
namespace Rows
def none {H : Type} : Left H := { results := [], args := [] }

/- WHAT THE LISTED PACKAGE-LEVEL VARIABLES READ AS WHEN THE CALL BEGINS. Each datum BY PROGRAM (the guide's laid-datum.mjs) off the statement by which the dump's own 'gosem.cut.vars' lays the variable. In a bare row this is a premise. The card (YbulkdhfmDoorCards.lean) ties it to the program's text. -/
def laid_math_bits_deBruijn32tab {H : Type} : DataW H := .agg [.lit (.int .u8 0), .lit (.int .u8 1), .lit (.int .u8 28), .lit (.int .u8 2), .lit (.int .u8 29), .lit (.int .u8 14), .lit (.int .u8 24), .lit (.int .u8 3), .lit (.int .u8 30), .lit (.int .u8 22), .lit (.int .u8 20), .lit (.int .u8 15), .lit (.int .u8 25), .lit (.int .u8 17), .lit (.int .u8 4), .lit (.int .u8 8), .lit (.int .u8 31), .lit (.int .u8 27), .lit (.int .u8 13), .lit (.int .u8 23), .lit (.int .u8 21), .lit (.int .u8 19), .lit (.int .u8 16), .lit (.int .u8 7), .lit (.int .u8 26), .lit (.int .u8 12), .lit (.int .u8 18), .lit (.int .u8 6), .lit (.int .u8 11), .lit (.int .u8 5), .lit (.int .u8 10), .lit (.int .u8 9)]
def laid_math_bits_deBruijn64tab {H : Type} : DataW H := .agg [.lit (.int .u8 0), .lit (.int .u8 1), .lit (.int .u8 56), .lit (.int .u8 2), .lit (.int .u8 57), .lit (.int .u8 49), .lit (.int .u8 28), .lit (.int .u8 3), .lit (.int .u8 61), .lit (.int .u8 58), .lit (.int .u8 42), .lit (.int .u8 50), .lit (.int .u8 38), .lit (.int .u8 29), .lit (.int .u8 17), .lit (.int .u8 4), .lit (.int .u8 62), .lit (.int .u8 47), .lit (.int .u8 59), .lit (.int .u8 36), .lit (.int .u8 45), .lit (.int .u8 43), .lit (.int .u8 51), .lit (.int .u8 22), .lit (.int .u8 53), .lit (.int .u8 39), .lit (.int .u8 33), .lit (.int .u8 30), .lit (.int .u8 24), .lit (.int .u8 18), .lit (.int .u8 12), .lit (.int .u8 5), .lit (.int .u8 63), .lit (.int .u8 55), .lit (.int .u8 48), .lit (.int .u8 27), .lit (.int .u8 60), .lit (.int .u8 41), .lit (.int .u8 37), .lit (.int .u8 16), .lit (.int .u8 46), .lit (.int .u8 35), .lit (.int .u8 44), .lit (.int .u8 21), .lit (.int .u8 52), .lit (.int .u8 32), .lit (.int .u8 23), .lit (.int .u8 11), .lit (.int .u8 54), .lit (.int .u8 26), .lit (.int .u8 40), .lit (.int .u8 15), .lit (.int .u8 34), .lit (.int .u8 20), .lit (.int .u8 31), .lit (.int .u8 10), .lit (.int .u8 25), .lit (.int .u8 14), .lit (.int .u8 19), .lit (.int .u8 9), .lit (.int .u8 13), .lit (.int .u8 8), .lit (.int .u8 7), .lit (.int .u8 6)]
def laid_internal_strconv_uint64pow10 {H : Type} : DataW H := .agg [.lit (.int .u64 1), .lit (.int .u64 10), .lit (.int .u64 100), .lit (.int .u64 1000), .lit (.int .u64 10000), .lit (.int .u64 100000), .lit (.int .u64 1000000), .lit (.int .u64 10000000), .lit (.int .u64 100000000), .lit (.int .u64 1000000000), .lit (.int .u64 10000000000), .lit (.int .u64 100000000000), .lit (.int .u64 1000000000000), .lit (.int .u64 10000000000000), .lit (.int .u64 100000000000000), .lit (.int .u64 1000000000000000), .lit (.int .u64 10000000000000000), .lit (.int .u64 100000000000000000), .lit (.int .u64 1000000000000000000), .lit (.int .u64 10000000000000000000)]
def laid_example_com_calm_valve_calm_valve_priorityNames {H : Type} : DataW H := .agg [.lit (.string [99, 114, 105, 116, 105, 99, 97, 108]), .lit (.string [105, 109, 112, 111, 114, 116, 97, 110, 116]), .lit (.string [110, 111, 114, 109, 97, 108]), .lit (.string [98, 97, 99, 107, 103, 114, 111, 117, 110, 100]), .lit (.string [100, 101, 103, 114, 97, 100, 101, 100])]

/-- 'calm-valve.LawS5420BWhole': WHATEVER THE INPUT: true; the input reads as it did. -/
def lawS5420BWholeSpec : ChangeSpec := { name := "lawS5420BWhole", vars := ["example.com/calm-valve/calm-valve.priorityNames"], fn := fun _ => fun
  | [d, g1] => { results := [.lit (.bool true)], args := [d], vars := [g1] }
  | _ => none }
def lawS5420BWholeRow : OpenClaim := { program := "ybulkdhfmdoor", sum := "13fecedfe7b453ee4400ee2321510855a9d821600774ae3c431ebacb422af0d1", func := "example.com/calm-valve/calm-valve.LawS5420BWhole", spec := "lawS5420BWhole", named := ["example.com/calm-valve/calm-valve.priorityNames", "internal/strconv.uint64pow10", "math/bits.deBruijn32tab", "math/bits.deBruijn64tab"], apart := false, laid := [("math/bits.deBruijn32tab", laid_math_bits_deBruijn32tab), ("math/bits.deBruijn64tab", laid_math_bits_deBruijn64tab), ("internal/strconv.uint64pow10", laid_internal_strconv_uint64pow10), ("example.com/calm-valve/calm-valve.priorityNames", laid_example_com_calm_valve_calm_valve_priorityNames)] }
def LawS5420BWholeSaid : Prop := lawS5420BWholeRow.holds Ybad.pinned (OpenSpec.ofChange lawS5420BWholeSpec)

/-- ITS FALSE NEIGHBOUR: 'it returns false'. Refute it at one input. -/
def lawS5420BWholeWrong : ChangeSpec := { name := "lawS5420BWhole", vars := ["example.com/calm-valve/calm-valve.priorityNames"], fn := fun _ => fun
  | [d, g1] => { results := [.lit (.bool false)], args := [d], vars := [g1] }
  | _ => none }
def LawS5420BWholeWrongFalsely : Prop := lawS5420BWholeRow.holds Ybad.pinned (OpenSpec.ofChange lawS5420BWholeWrong)

/-- 'calm-valve.LawS5420BRoundTrip': WHATEVER THE INPUT: true; the input reads as it did. -/
def lawS5420BRoundTripSpec : ChangeSpec := { name := "lawS5420BRoundTrip", vars := ["example.com/calm-valve/calm-valve.priorityNames"], fn := fun _ => fun
  | [d, g1] => { results := [.lit (.bool true)], args := [d], vars := [g1] }
  | _ => none }
def lawS5420BRoundTripRow : OpenClaim := { program := "ybulkdhfmdoor", sum := "13fecedfe7b453ee4400ee2321510855a9d821600774ae3c431ebacb422af0d1", func := "example.com/calm-valve/calm-valve.LawS5420BRoundTrip", spec := "lawS5420BRoundTrip", named := ["example.com/calm-valve/calm-valve.priorityNames", "internal/strconv.uint64pow10", "math/bits.deBruijn32tab", "math/bits.deBruijn64tab"], apart := false, laid := [("math/bits.deBruijn32tab", laid_math_bits_deBruijn32tab), ("math/bits.deBruijn64tab", laid_math_bits_deBruijn64tab), ("internal/strconv.uint64pow10", laid_internal_strconv_uint64pow10), ("example.com/calm-valve/calm-valve.priorityNames", laid_example_com_calm_valve_calm_valve_priorityNames)] }
def LawS5420BRoundTripSaid : Prop := lawS5420BRoundTripRow.holds Ybad.pinned (OpenSpec.ofChange lawS5420BRoundTripSpec)

/-- ITS FALSE NEIGHBOUR: 'it returns false'. Refute it at one input. -/
def lawS5420BRoundTripWrong : ChangeSpec := { name := "lawS5420BRoundTrip", vars := ["example.com/calm-valve/calm-valve.priorityNames"], fn := fun _ => fun
  | [d, g1] => { results := [.lit (.bool false)], args := [d], vars := [g1] }
  | _ => none }
def LawS5420BRoundTripWrongFalsely : Prop := lawS5420BRoundTripRow.holds Ybad.pinned (OpenSpec.ofChange lawS5420BRoundTripWrong)

/-- 'calm-valve.LawS5420CPart': WHATEVER THE INPUT: true; the input reads as it did. -/
def lawS5420CPartSpec : ChangeSpec := { name := "lawS5420CPart", fn := fun _ => fun
  | [d1, d2] => { results := [.lit (.bool true)], args := [d1, d2] }
  | _ => none }
def lawS5420CPartRow : OpenClaim := { program := "ybulkdhfmdoor", sum := "13fecedfe7b453ee4400ee2321510855a9d821600774ae3c431ebacb422af0d1", func := "example.com/calm-valve/calm-valve.LawS5420CPart", spec := "lawS5420CPart", inPlace := ["math.Float64frombits", "math.Float64bits", "sync/atomic.StoreUint64", "time.runtimeNow", "time.runtimeNano", "time.syncTimer", "time.newTimer", "time.stopTimer", "sync/atomic.LoadUint64"], unfollowed := true, recurses := true, named := ["time.Local", "time.startNano"], apart := false }
def LawS5420CPartSaid : Prop := lawS5420CPartRow.holds Ybad.pinned (OpenSpec.ofChange lawS5420CPartSpec)

/-- ITS FALSE NEIGHBOUR: 'it returns false'. Refute it at one input. -/
def lawS5420CPartWrong : ChangeSpec := { name := "lawS5420CPart", fn := fun _ => fun
  | [d1, d2] => { results := [.lit (.bool false)], args := [d1, d2] }
  | _ => none }
def LawS5420CPartWrongFalsely : Prop := lawS5420CPartRow.holds Ybad.pinned (OpenSpec.ofChange lawS5420CPartWrong)

end Rows
end Go.Proofs.YbulkdhfmDoor
