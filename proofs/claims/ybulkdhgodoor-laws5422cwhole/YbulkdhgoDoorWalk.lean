/- The source's methods and LawS5422CWhole. -/
import Derived.Test.YbulkdhgoDoorLock
import Derived.Laws.CopyRow
import Derived.Laws.CopyOwn
import Derived.Deep.Grids
import Derived.BigQuiet
import Derived.Below
import Derived.Lib.Builder
import Derived.LaidEqlPtr
import Derived.LaidEql
import Derived.Deep.CutBlock
import Derived.Deep.DeepCutAuto
namespace Go.Proofs.YbulkdhgoDoor
open Go.RowKit
set_option linter.unusedVariables false

theorem cell_of_heap {w : World} {g : Nat} {c : Array Value} {t : TypeId} {fr : Nat × Nat} (h : w.heap[g]? = some (.cells c t fr)) (j : Nat) : w.cell? ⟨g, j, none⟩ = c[j]? := by
  simp [World.cell?, h]
theorem free_of_heap {w : World} {g : Nat} {c : Array Value} {t : TypeId} (h : w.heap[g]? = some (.cells c t (0, 0))) (j : Nat) : w.frozen? ⟨g, j, none⟩ = false := by
  simp [World.frozen?, h]

/-- The source's block: src, the mutex's state and semaphore, err. -/
abbrev srcRow (src : Value) (st : Int) (sm err : Value) : Array Value := #[src, .int .i32 st, sm, err]

theorem set1 {w : World} {S : Nat} {src sm err : Value} {st : Int} (h : w.heap[S]? = some (.cells (srcRow src st sm err) 40 (0, 0))) (st' : Int) :
    w.setCell ⟨S, 1, none⟩ (.int .i32 st') = w.setRow S (srcRow src st' sm err) := by
  rw [setCell_eq_setRow w S 1 _ 40 _ _ h]; rfl
theorem set3 {w : World} {S : Nat} {src sm err : Value} {st : Int} (h : w.heap[S]? = some (.cells (srcRow src st sm err) 40 (0, 0))) (v : Value) :
    w.setCell ⟨S, 3, none⟩ v = w.setRow S (srcRow src st sm v) := by
  rw [setCell_eq_setRow w S 3 _ 40 _ _ h]; rfl

theorem lockS {w : World} {S : Nat} {src sm err : Value} (h : w.heap[S]? = some (.cells (srcRow src 0 sm err) 40 (0, 0))) :
    Calls Ybad.prog 12 #[.pointer (some ⟨S, 1, none⟩)] w fun e w' => e = .returned (.tuple #[]) ∧ w' = w.setRow S (srcRow src 1 sm err) := by
  refine (lock ⟨S, 1, none⟩ w (by rw [cell_of_heap h]; rfl) (free_of_heap h 1)).mono ?_
  rintro e w' ⟨he, hw⟩
  exact ⟨he, hw.trans (set1 h 1)⟩
theorem unlockS {w : World} {S : Nat} {src sm err : Value} (h : w.heap[S]? = some (.cells (srcRow src 1 sm err) 40 (0, 0))) :
    Calls Ybad.prog 8 #[.pointer (some ⟨S, 1, none⟩)] w fun e w' => e = .returned (.tuple #[]) ∧ w' = w.setRow S (srcRow src 0 sm err) := by
  refine (unlock ⟨S, 1, none⟩ w (by rw [cell_of_heap h]; rfl) (free_of_heap h 1)).mono ?_
  rintro e w' ⟨he, hw⟩
  exact ⟨he, hw.trans (set1 h 0)⟩
theorem tryS {w : World} {S : Nat} {src sm err : Value} (h : w.heap[S]? = some (.cells (srcRow src 0 sm err) 40 (0, 0))) :
    Calls Ybad.prog 7 #[.pointer (some ⟨S, 1, none⟩)] w fun e w' => e = .returned (.bool true) ∧ w' = w.setRow S (srcRow src 1 sm err) := by
  refine (trylock ⟨S, 1, none⟩ w (by rw [cell_of_heap h]; rfl) (free_of_heap h 1)).mono ?_
  rintro e w' ⟨he, hw⟩
  exact ⟨he, hw.trans (set1 h 1)⟩

set_option maxRecDepth 100000 in
set_option maxHeartbeats 1000000 in
theorem forget (S : Nat) (src sm err : Value) (w : World) (h : w.heap[S]? = some (.cells (srcRow src 0 sm err) 40 (0, 0))) :
    Calls Ybad.prog 6 #[.pointer (some ⟨S, 0, none⟩)] w fun e w' => e = .returned (.tuple #[]) ∧ w' = w.setRow S (srcRow src 0 sm .nilIface) := by
  have h1 := setRow_heap w S _ (srcRow src 1 sm err) 40 _ h
  have c3 : (w.setRow S (srcRow src 1 sm err)).cell? ⟨S, 3, none⟩ = some err := by rw [cell_of_heap h1]; rfl
  have f3 := free_of_heap h1 3
  have e3 := set3 h1 .nilIface
  rw [setRow_setRow] at e3
  have h2 := setRow_heap w S _ (srcRow src 1 sm .nilIface) 40 _ h
  go_enter Ybad.func6, Ybad.ntmps6
  go_wp2_with first
    | (go_at_call 12; refine (lockS h).mono ?_; rintro _ _ ⟨rfl, rfl⟩)
    | (go_at_call 8; refine (unlockS h2).mono ?_; rintro _ _ ⟨rfl, rfl⟩)
  go_end0
  exact ⟨rfl, by rw [setRow_setRow]⟩

/-- An error as the law meets one. -/
def IsErr (v : Value) : Prop := v = .nilIface ∨ ∃ a, v = .iface 50 (.pointer (some a))

set_option maxRecDepth 100000 in
set_option maxHeartbeats 1000000 in
theorem zzerr (tag : Nat) (w : World) (e1 e2 : Value) (h1 : w.cell? ⟨1, 0, none⟩ = some e1) (h2 : w.cell? ⟨2, 0, none⟩ = some e2) :
    Calls Ybad.prog 5 #[.int .u8 tag] w fun e w' => ∃ v, e = .returned v ∧
      ((v = .nilIface ∧ w = w') ∨ (v = e1 ∧ w = w') ∨ (v = e2 ∧ w = w') ∨ (v = .iface 50 (.pointer (some ⟨w.heap.size, 0, none⟩)) ∧ w.alloc (.cells #[.string ⟨#[122, 122, 32, 102, 97, 105, 108]⟩] 52) = w')) := by
  go_enter Ybad.func5, Ybad.ntmps5
  go_wp2
  · go_ret
    exact ⟨_, rfl, Or.inl ⟨rfl, rfl⟩⟩
  · go_ret
    exact ⟨_, rfl, Or.inr (Or.inl ⟨rfl, rfl⟩)⟩
  · go_ret
    exact ⟨_, rfl, Or.inr (Or.inr (Or.inl ⟨rfl, rfl⟩))⟩
  · go_ret
    exact ⟨_, rfl, Or.inr (Or.inr (Or.inr ⟨rfl, rfl⟩))⟩

theorem comp22 : (Ybad.prog.info? 22).map (·.comparable) = some true := by kernel_rfl
theorem comp50 : (Ybad.prog.info? 50).map (·.comparable) = some true := by kernel_rfl
theorem size27 : (Ybad.prog.info? 27).map (·.size) = some 3 := by kernel_rfl
theorem size52 : (Ybad.prog.info? 52).map (·.size) = some 1 := by kernel_rfl
theorem iface_same (a : Addr) (w : World) : (binOp .neq 31 (.iface 22 (.pointer (some a))) (.iface 22 (.pointer (some a)))).run Ybad.prog w = .ok (.bool false) w := by
  obtain ⟨i, hi, hcmp⟩ := Option.map_eq_some_iff.1 comp22
  obtain ⟨j, hj, _⟩ := Option.map_eq_some_iff.1 size27
  simp only [binOp]
  simp [Op.equal, Op.maxDepth, run_equalIn_iface_ptr_same (P := Ybad.prog) w 9998 a Ybad.underlying31 Ybad.underlying22 hi hcmp hj]

theorem lt_of_heap {w : World} {b : Nat} {o : Obj} (h : w.heap[b]? = some o) : b < w.heap.size := (Array.getElem?_eq_some_iff.1 h).1
theorem made1 {w wR : World} {R : Nat} {o : Obj} (hb : Below R w wR) (hR : wR.heap[R]? = some o) (x : Obj) :
    R < wR.heap.size ∧ (wR.alloc x).heap[wR.heap.size]? = some x ∧ (wR.alloc x).heap[R]? = some o ∧ Below R w (wR.alloc x) := by
  have hlt := lt_of_heap hR
  exact ⟨hlt, heap_alloc_new wR x, (((Below.refl wR.heap.size wR).alloc (Nat.le_refl _) x).block R hlt).trans hR, hb.alloc (Nat.le_of_lt hlt) x⟩

set_option maxRecDepth 100000 in
set_option maxHeartbeats 2000000 in
theorem whole (tag : Nat) (w : World) (a1 a2 : Addr) (h1 : w.cell? ⟨1, 0, none⟩ = some (.iface 50 (.pointer (some a1)))) (h2 : w.cell? ⟨2, 0, none⟩ = some (.iface 50 (.pointer (some a2)))) :
    Calls Ybad.prog 3 #[.int .u8 tag] w fun e w' => e = .returned (.bool true) ∧ Below w.heap.size w w' := by
  have hif := iface_same
  go_enter Ybad.func3, Ybad.ntmps3
  go_upto_region 2 with fail
  generalize hwR : World.alloc w _ = wR
  have hR : wR.heap[w.heap.size]? = some (.cells #[.slice none 0 0, .nilIface, .int .i64 0] 27 (0, 0)) := by rw [← hwR]; exact heap_alloc_new w _
  have hB : Below w.heap.size w wR := by rw [← hwR]; exact (Below.refl _ _).alloc (Nat.le_refl _) _
  have h1' : wR.cell? ⟨1, 0, none⟩ = some (.iface 50 (.pointer (some a1))) := (World.cell?_of_block (hB.block 1 (World.block_lt_of_cell? w _ h1))).trans h1
  have h2' : wR.cell? ⟨2, 0, none⟩ = some (.iface 50 (.pointer (some a2))) := (World.cell?_of_block (hB.block 2 (World.block_lt_of_cell? w _ h2))).trans h2
  obtain ⟨R, hRe⟩ : ∃ R, w.heap.size = R := ⟨_, rfl⟩
  have HB : Hid (Below R w wR ∧ wR.heap[R]? = some (.cells #[.slice none 0 0, .nilIface, .int .i64 0] 27 (0, 0))) := ⟨by rw [← hRe]; exact hB, by rw [← hRe]; exact hR⟩
  clear hR hB h1 h2 hwR
  rw [hRe]
  go_cut [4] from 7 to 12 (fun v w' => ∃ S e, v = .pointer (some ⟨S, 0, none⟩) ∧ R < S ∧ w'.heap[S]? = some (.cells (srcRow (.iface 22 (.pointer (some ⟨R, 0, none⟩))) 0 (.int .u32 0) e) 40 (0, 0)) ∧ w'.heap[R]? = some (.cells #[.slice none 0 0, .nilIface, .int .i64 0] 27 (0, 0)) ∧ Below R w w')
  case first =>
    go_wp2_with (go_at_call 5; refine (zzerr tag _ _ _ h1' h2').mono ?_; rintro _ _ ⟨v, rfl, ⟨rfl, rfl⟩ | ⟨rfl, rfl⟩ | ⟨rfl, rfl⟩ | ⟨rfl, rfl⟩⟩)
    all_goals go_meet
    · obtain ⟨a, b, c, d⟩ := made1 HB.out.1 HB.out.2 (.cells #[.iface 22 (.pointer (some ⟨R, 0, none⟩)), .int .i32 0, .int .u32 0, .nilIface] 40)
      exact ⟨_, _, rfl, a, b, c, d⟩
    · obtain ⟨a, b, c, d⟩ := made1 HB.out.1 HB.out.2 (.cells #[.iface 22 (.pointer (some ⟨R, 0, none⟩)), .int .i32 0, .int .u32 0, .iface 50 (.pointer (some a1))] 40)
      exact ⟨_, _, rfl, a, b, c, d⟩
    · obtain ⟨a, b, c, d⟩ := made1 HB.out.1 HB.out.2 (.cells #[.iface 22 (.pointer (some ⟨R, 0, none⟩)), .int .i32 0, .int .u32 0, .iface 50 (.pointer (some a2))] 40)
      exact ⟨_, _, rfl, a, b, c, d⟩
    · obtain ⟨_, _, c0, d0⟩ := made1 HB.out.1 HB.out.2 (.cells #[.string ⟨#[122, 122, 32, 102, 97, 105, 108]⟩] 52)
      obtain ⟨a, b, c, d⟩ := made1 d0 c0 (.cells #[.iface 22 (.pointer (some ⟨R, 0, none⟩)), .int .i32 0, .int .u32 0, .iface 50 (.pointer (some ⟨wR.heap.size, 0, none⟩))] 40)
      simp only [World.size_alloc] at a b
      exact ⟨_, _, rfl, a, b, c, d⟩
  case rest =>
    obtain ⟨S, e, rfl, hRS, hS, hR, hB⟩ := hcut
    obtain ⟨wA, h⟩ : ∃ x, x = wc := ⟨_, rfl⟩
    subst h
    have k1 := setRow_heap wA S _ (srcRow (.iface 22 (.pointer (some ⟨R, 0, none⟩))) 0 (.int .u32 0) .nilIface) 40 _ hS
    have kR := (setRow_other wA S R (srcRow (.iface 22 (.pointer (some ⟨R, 0, none⟩))) 0 (.int .u32 0) .nilIface) (by omega)).trans hR
    obtain ⟨wB, hwB⟩ : ∃ x, x = wA.setRow S (srcRow (.iface 22 (.pointer (some ⟨R, 0, none⟩))) 0 (.int .u32 0) .nilIface) := ⟨_, rfl⟩
    have hBB : Below R w wB := by rw [hwB]; exact below_setRow hB (by omega) _
    have hf := forget S _ _ _ wA hS
    rw [← hwB] at k1 kR hf
    have d0 : wB.cell? ⟨S, 0, none⟩ = some (.iface 22 (.pointer (some ⟨R, 0, none⟩))) := by rw [cell_of_heap k1]; rfl
    have d3 : wB.cell? ⟨S, 3, none⟩ = some .nilIface := by rw [cell_of_heap k1]; rfl
    have dR : wB.cell? ⟨R, 2, none⟩ = some (.int .i64 0) := by rw [cell_of_heap kR]; rfl
    have k2 := setRow_heap wB S _ (srcRow (.iface 22 (.pointer (some ⟨R, 0, none⟩))) 1 (.int .u32 0) .nilIface) 40 _ k1
    have hun := unlockS k2
    have htr := tryS k1
    have HBB : Hid (Below R w wB ∧ R ≤ S) := ⟨hBB, Nat.le_of_lt hRS⟩
    clear h1' h2' HB hBB hwB hS hR hB k1 k2 kR
    go_wp2_with first
      | (go_at_call 6; refine hf.mono ?_; rintro _ _ ⟨rfl, rfl⟩)
      | (go_at_call 7; refine htr.mono ?_; rintro _ _ ⟨rfl, rfl⟩)
      | (go_at_call 8; refine hun.mono ?_; rintro _ _ ⟨rfl, rfl⟩)
    go_ret
    refine ⟨rfl, ?_⟩
    rw [hRe]
    exact below_setRow (below_setRow HBB.out.1 HBB.out.2 _) HBB.out.2 _
end Go.Proofs.YbulkdhgoDoor
