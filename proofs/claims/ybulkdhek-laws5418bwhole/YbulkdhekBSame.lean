import Derived.Test.YbulkdhekRows
import Derived.WalkKit
import Derived.WalkSpells
import Derived.WalkLawsBesides
import Derived.Deep.QuietTactic
import Derived.BigQuiet
import Derived.LaidEqlPtr
namespace Go.Proofs.Ybulkdhek
open Go.RowKit

theorem info37 : (Yba.prog.info? 37).map (fun i => (i.zero, i.size, i.bytes)) = some (some (.int .u64 0), 1, 8) := by kernel_rfl

set_option maxHeartbeats 400000 in
theorem same_any (g n c c' : Nat) (hn : 1 ≤ n) (w : World) :
    Calls Yba.prog 7 #[.slice (some ⟨g, 0, none⟩) n c, .slice (some ⟨g, 0, none⟩) n c'] w fun e w' => e = .returned (.bool true) ∧ ∃ k, w' = w.drewN k := by
  have hl : 0 < n := by omega
  obtain ⟨i0, hi, hz0, hz1, hz2⟩ := info_parts info37
  have hpe : ∀ w, (binOp .eql 68 (.pointer (some ⟨g, 0, none⟩)) (.pointer (some ⟨g, 0, none⟩))).run Yba.prog w = .ok (.bool true) w := fun w => run_eql_ptr_same w _ Yba.underlying68 hi
  clear hi hz0 hz1 hz2 i0
  go_enter Yba.func7, Yba.ntmps7
  go_wp2
  go_quiet (fail)
  go_wp2
  go_ret
  exact ⟨rfl, _, rfl⟩
end Go.Proofs.Ybulkdhek
