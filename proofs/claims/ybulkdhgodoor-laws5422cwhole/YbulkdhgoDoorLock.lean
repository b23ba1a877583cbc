/- sync.Mutex, one goroutine, the lock free: Lock, Unlock, TryLock at this translation's own numbers. -/
import Derived.Test.YbulkdhgoDoorRows
import Derived.Conc.MuLone
import Derived.WalkKit
import Derived.WalkSpells
import Derived.WalkLawsBesides
import Derived.Handy
import Derived.Defers
import Derived.Laws.LoneSync
import Derived.Laws.Pointers
namespace Go.Proofs.YbulkdhgoDoor
open Go.RowKit
set_option linter.unusedVariables false

theorem disable (w : World) : (callFunc 17 #[]).run Ybad.prog w = .ok (.value (.tuple #[])) w := run_call_mark0 Ybad.func17 (by kernel_rfl) (by kernel_rfl) (by kernel_rfl) .disable (by kernel_rfl) w
theorem enable (w : World) : (callFunc 18 #[]).run Ybad.prog w = .ok (.value (.tuple #[])) w := run_call_mark0 Ybad.func18 (by kernel_rfl) (by kernel_rfl) (by kernel_rfl) .enable (by kernel_rfl) w
theorem acquire (a : Addr) (w : World) : (callFunc 20 #[.pointer (some a)]).run Ybad.prog w = .ok (.value (.tuple #[])) w := run_call_marked Ybad.func20 (by kernel_rfl) (by kernel_rfl) (by kernel_rfl) .acquire (by kernel_rfl) a w
theorem releaseMerge (a : Addr) (w : World) : (callFunc 21 #[.pointer (some a)]).run Ybad.prog w = .ok (.value (.tuple #[])) w := run_call_marked Ybad.func21 (by kernel_rfl) (by kernel_rfl) (by kernel_rfl) .releaseMerge (by kernel_rfl) a w
theorem room36 : (Ybad.prog.info? 36).isSome = true := by kernel_rfl

set_option maxRecDepth 100000 in
set_option maxHeartbeats 800000 in
theorem ilock (a : Addr) (w : World) (hc : w.cell? a = some (.int .i32 0)) (hz : w.frozen? a = false) :
    Calls Ybad.prog 16 #[.pointer (some a)] w fun e w' => e = .returned (.tuple #[]) ∧ w' = w.setCell a (.int .i32 1) := by
  have hd := disable
  have he := enable
  have ha := acquire
  have hcas := run_call_cas_hit (P := Ybad.prog) Ybad.func19 (by kernel_rfl) (by kernel_rfl) (by kernel_rfl) .i32 (by kernel_rfl) (y := 1) hc hz
  have hc' : (w.setCell a (.int .i32 1)).cell? a = some (.int .i32 1) := by simp [go_sem, hc]
  have hcv := run_convert_to_unsafe (P := Ybad.prog) (src := 53) (dst := 57) Ybad.underlying53 Ybad.underlying57 (by kernel_rfl) hc'
  go_enter Ybad.func16, Ybad.ntmps16
  go_wp2
  refine bodyPost_ret (results_none rfl _ _ _) rfl ?_
  exact ⟨rfl, rfl⟩

set_option maxRecDepth 100000 in
set_option maxHeartbeats 800000 in
theorem iunlock (a : Addr) (w : World) (hc : w.cell? a = some (.int .i32 1)) (hz : w.frozen? a = false) :
    Calls Ybad.prog 14 #[.pointer (some a)] w fun e w' => e = .returned (.tuple #[]) ∧ w' = w.setCell a (.int .i32 0) := by
  have hd := disable
  have he := enable
  have hr := releaseMerge
  have hcv := run_convert_to_unsafe (P := Ybad.prog) (src := 53) (dst := 57) Ybad.underlying53 Ybad.underlying57 (by kernel_rfl) hc
  have hadd := run_call_add (P := Ybad.prog) Ybad.func22 (by kernel_rfl) (by kernel_rfl) (by kernel_rfl) .i32 (by kernel_rfl) (y := -1) (s := 0) hc hz (by simp [go_sem]; rfl)
  go_enter Ybad.func14, Ybad.ntmps14
  go_wp2
  go_end0
  exact ⟨rfl, rfl⟩

set_option maxRecDepth 100000 in
set_option maxHeartbeats 800000 in
theorem itry (a : Addr) (w : World) (hc : w.cell? a = some (.int .i32 0)) (hz : w.frozen? a = false) :
    Calls Ybad.prog 13 #[.pointer (some a)] w fun e w' => e = .returned (.bool true) ∧ w' = w.setCell a (.int .i32 1) := by
  have hd := disable
  have he := enable
  have ha := acquire
  have hcas := run_call_cas_hit (P := Ybad.prog) Ybad.func19 (by kernel_rfl) (by kernel_rfl) (by kernel_rfl) .i32 (by kernel_rfl) (y := 1) hc hz
  have hc' : (w.setCell a (.int .i32 1)).cell? a = some (.int .i32 1) := by simp [go_sem, hc]
  have hcv := run_convert_to_unsafe (P := Ybad.prog) (src := 53) (dst := 57) Ybad.underlying53 Ybad.underlying57 (by kernel_rfl) hc'
  go_enter Ybad.func13, Ybad.ntmps13
  go_wp2
  go_ret
  exact ⟨rfl, rfl⟩

theorem lock (a : Addr) (w : World) (hc : w.cell? a = some (.int .i32 0)) (hz : w.frozen? a = false) :
    Calls Ybad.prog 12 #[.pointer (some a)] w fun e w' => e = .returned (.tuple #[]) ∧ w' = w.setCell a (.int .i32 1) := by
  go_enter Ybad.func12, Ybad.ntmps12
  go_wp2_with (go_at_call 16; refine (ilock a _ hc hz).mono ?_; rintro e w' ⟨rfl, rfl⟩)
  go_end0
  exact ⟨rfl, rfl⟩
theorem unlock (a : Addr) (w : World) (hc : w.cell? a = some (.int .i32 1)) (hz : w.frozen? a = false) :
    Calls Ybad.prog 8 #[.pointer (some a)] w fun e w' => e = .returned (.tuple #[]) ∧ w' = w.setCell a (.int .i32 0) := by
  go_enter Ybad.func8, Ybad.ntmps8
  go_wp2_with (go_at_call 14; refine (iunlock a _ hc hz).mono ?_; rintro e w' ⟨rfl, rfl⟩)
  go_end0
  exact ⟨rfl, rfl⟩
theorem unlockD (a : Addr) (u : FrameMode) (w : World) (hc : w.cell? a = some (.int .i32 1)) (hz : w.frozen? a = false) :
    CallsD Ybad.prog 8 #[.pointer (some a)] u w fun e u' w' => u' = u ∧ (e = .returned (.tuple #[]) ∧ w' = w.setCell a (.int .i32 0)) := by
  go_enter_d Ybad.func8, Ybad.ntmps8
  go_wp2_with (go_at_call 14; refine (iunlock a _ hc hz).mono ?_; rintro e w' ⟨rfl, rfl⟩)
  go_end0
  exact ⟨rfl, rfl⟩
theorem trylock (a : Addr) (w : World) (hc : w.cell? a = some (.int .i32 0)) (hz : w.frozen? a = false) :
    Calls Ybad.prog 7 #[.pointer (some a)] w fun e w' => e = .returned (.bool true) ∧ w' = w.setCell a (.int .i32 1) := by
  go_enter Ybad.func7, Ybad.ntmps7
  go_wp2_with (go_at_call 13; refine (itry a _ hc hz).mono ?_; rintro e w' ⟨rfl, rfl⟩)
  go_ret
  exact ⟨rfl, rfl⟩
end Go.Proofs.YbulkdhgoDoor
