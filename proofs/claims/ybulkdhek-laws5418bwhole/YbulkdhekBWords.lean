import Derived.Test.YbulkdhekBEarlier
import Derived.Deep.QuietTactic
import Derived.BigQuiet
namespace Go.Proofs.Ybulkdhek
open Go.RowKit
set_option linter.unusedVariables false

set_option maxHeartbeats 400000 in
theorem words_sent (Wb S s first d m sb : Nat) (e : Int) (f : Value) (w : World) (hs : s ≤ 65536) (hfd : first + d = s) (hm : d < m)
    (h7 : w.cell? ⟨Wb, 7, none⟩ = some (.slice (some ⟨S, 0, none⟩) m m)) (hc : w.cell? ⟨S, d, none⟩ = some (.slice (some ⟨sb, 0, none⟩) 2 2)) :
    Calls Yba.prog 6 #[.pointer (some ⟨Wb, 0, none⟩), .int .i64 s, .int .i64 e, .int .i64 first, f] w fun e' w' => e' = .returned (.slice (some ⟨sb, 0, none⟩) 2 2) ∧ w' = w := by
  have hnn : ∀ w, (binOp .neq 38 (.slice (some ⟨sb, 0, none⟩) 2 2) (.slice none 0 0)).run Yba.prog w = .ok (.bool true) w := fun w => run_neq_slice_nil_any w _ _ _ _ _ _ _ Yba.underlying38
  subst hfd
  have g1 : (first : Int) ≤ ((first + d : Nat) : Int) := by omega
  go_enter Yba.func6, Yba.ntmps6
  go_wp2
  go_ret
  exact ⟨rfl, rfl⟩

theorem Kept.drewN {S : Nat → Prop} {a w : World} (h : Kept S a w) (n : Nat) : Kept S a (w.drewN n) := ⟨h.os, h.tape, h.output, h.size, h.block⟩

/-- What wordsOf reads behind the test on 'sent'. -/
structure Reads (w : World) (Wb X E O Lt g lb n s p idx len cap : Nat) (nx : Int) : Prop where
  x : w.cell? ⟨Wb, 0, none⟩ = some (.pointer (some ⟨X, 0, none⟩))
  lat : w.cell? ⟨Wb, 6, none⟩ = some (.slice (some ⟨Lt, 0, none⟩) 4 4)
  ev : w.cell? ⟨X, 2, none⟩ = some (.slice (some ⟨E, 0, none⟩) n n)
  on : w.cell? ⟨X, 3, none⟩ = some (.slice (some ⟨O, 0, none⟩) 4 4)
  e0 : w.cell? ⟨E, s * 3, none⟩ = some (.int .i64 p)
  e1 : w.cell? ⟨E, s * 3 + 1, none⟩ = some (.int .i64 idx)
  e2 : ∃ kk k, w.cell? ⟨E, s * 3 + 2, none⟩ = some (.int kk k)
  op : w.cell? ⟨O, p, none⟩ = some (.slice (some ⟨g, 0, none⟩) len cap)
  nxt : idx < len → w.cell? ⟨g, idx, none⟩ = some (.int .i64 nx)
  lt : w.cell? ⟨Lt, p, none⟩ = some (.slice (some ⟨lb, 0, none⟩) 1 1)

set_option maxHeartbeats 400000 in
theorem words_latest_ax (Wb X E O Lt g lb n s p idx len cap : Nat) (nx e : Int) (f : Value) (first : Nat) (w : World) (hs : s < n) (hn : n ≤ 65536) (hp : p < 4) (hlen : len ≤ 65536)
    (R : Reads w Wb X E O Lt g lb n s p idx len cap nx) (hf : s < first) (hd : idx = len) :
    Calls Yba.prog 6 #[.pointer (some ⟨Wb, 0, none⟩), .int .i64 s, .int .i64 e, .int .i64 first, f] w fun e' w' => e' = .returned (.slice (some ⟨lb, 0, none⟩) 1 1) ∧ Kept (fun _ => False) w w' := by
  obtain ⟨h1, h2, h3, h4, h5, h6, ⟨kk, k, h7⟩, h8, h9, h10⟩ := R
  have l1 := World.block_lt_of_cell? w _ h1
  have l3 := World.block_lt_of_cell? w _ h3
  have l8 := World.block_lt_of_cell? w _ h8
  have l10 := World.block_lt_of_cell? w _ h10
  simp only at l1 l3 l8 l10
  subst hd
  have g1 : ¬ (first : Int) ≤ (s : Int) := by omega
  go_enter Yba.func6, Yba.ntmps6
  go_wp2
  go_quiet (fail)
  go_wp2
  go_quiet (fail)
  go_wp2
  go_ret
  exact ⟨rfl, (((Kept.refl _ _).alloc _).drewN _).drewN _⟩

set_option maxHeartbeats 400000 in
theorem words_latest_ay (Wb X E O Lt g lb n s p idx len cap : Nat) (nx e : Int) (f : Value) (first : Nat) (w : World) (hs : s < n) (hn : n ≤ 65536) (hp : p < 4) (hlen : len ≤ 65536)
    (R : Reads w Wb X E O Lt g lb n s p idx len cap nx) (hf : s < first) (hil : idx < len) (hnx : e ≤ nx) :
    Calls Yba.prog 6 #[.pointer (some ⟨Wb, 0, none⟩), .int .i64 s, .int .i64 e, .int .i64 first, f] w fun e' w' => e' = .returned (.slice (some ⟨lb, 0, none⟩) 1 1) ∧ Kept (fun _ => False) w w' := by
  obtain ⟨h1, h2, h3, h4, h5, h6, ⟨kk, k, h7⟩, h8, h9, h10⟩ := R
  have l1 := World.block_lt_of_cell? w _ h1
  have l3 := World.block_lt_of_cell? w _ h3
  have l8 := World.block_lt_of_cell? w _ h8
  have l10 := World.block_lt_of_cell? w _ h10
  simp only at l1 l3 l8 l10
  have l9 := World.block_lt_of_cell? w _ (h9 hil)
  simp only at l9
  have h9' := h9 hil
  clear h9
  have hde : ((idx : Int) == (len : Int)) = false := by simp; omega
  have g1 : ¬ (first : Int) ≤ (s : Int) := by omega
  go_enter Yba.func6, Yba.ntmps6
  go_wp2
  go_quiet (fail)
  go_wp2
  go_quiet (fail)
  go_wp2
  go_ret
  exact ⟨rfl, (((Kept.refl _ _).alloc _).drewN _).drewN _⟩

set_option maxHeartbeats 400000 in
theorem words_latest_bx (Wb X E O Lt g lb n s p idx len cap : Nat) (nx e : Int) (f : Value) (first : Nat) (w : World) (hs : s < n) (hn : n ≤ 65536) (hp : p < 4) (hlen : len ≤ 65536)
    (R : Reads w Wb X E O Lt g lb n s p idx len cap nx) (d m S : Nat) (hfd : first + d = s) (hm : d < m) (h7' : w.cell? ⟨Wb, 7, none⟩ = some (.slice (some ⟨S, 0, none⟩) m m)) (hc : w.cell? ⟨S, d, none⟩ = some (.slice none 0 0)) (hd : idx = len) :
    Calls Yba.prog 6 #[.pointer (some ⟨Wb, 0, none⟩), .int .i64 s, .int .i64 e, .int .i64 first, f] w fun e' w' => e' = .returned (.slice (some ⟨lb, 0, none⟩) 1 1) ∧ Kept (fun _ => False) w w' := by
  obtain ⟨h1, h2, h3, h4, h5, h6, ⟨kk, k, h7⟩, h8, h9, h10⟩ := R
  have l1 := World.block_lt_of_cell? w _ h1
  have l3 := World.block_lt_of_cell? w _ h3
  have l8 := World.block_lt_of_cell? w _ h8
  have l10 := World.block_lt_of_cell? w _ h10
  simp only at l1 l3 l8 l10
  subst hd
  have hnn : ∀ w, (binOp .neq 38 (.slice none 0 0) (.slice none 0 0)).run Yba.prog w = .ok (.bool false) w := fun w => run_neq_slice_nil_any w _ _ _ _ _ _ _ Yba.underlying38
  subst hfd
  have g1 : (first : Int) ≤ ((first + d : Nat) : Int) := by omega
  go_enter Yba.func6, Yba.ntmps6
  go_wp2
  go_quiet (fail)
  go_wp2
  go_quiet (fail)
  go_wp2
  go_ret
  exact ⟨rfl, (((Kept.refl _ _).alloc _).drewN _).drewN _⟩

set_option maxHeartbeats 400000 in
theorem words_latest_by (Wb X E O Lt g lb n s p idx len cap : Nat) (nx e : Int) (f : Value) (first : Nat) (w : World) (hs : s < n) (hn : n ≤ 65536) (hp : p < 4) (hlen : len ≤ 65536)
    (R : Reads w Wb X E O Lt g lb n s p idx len cap nx) (d m S : Nat) (hfd : first + d = s) (hm : d < m) (h7' : w.cell? ⟨Wb, 7, none⟩ = some (.slice (some ⟨S, 0, none⟩) m m)) (hc : w.cell? ⟨S, d, none⟩ = some (.slice none 0 0)) (hil : idx < len) (hnx : e ≤ nx) :
    Calls Yba.prog 6 #[.pointer (some ⟨Wb, 0, none⟩), .int .i64 s, .int .i64 e, .int .i64 first, f] w fun e' w' => e' = .returned (.slice (some ⟨lb, 0, none⟩) 1 1) ∧ Kept (fun _ => False) w w' := by
  obtain ⟨h1, h2, h3, h4, h5, h6, ⟨kk, k, h7⟩, h8, h9, h10⟩ := R
  have l1 := World.block_lt_of_cell? w _ h1
  have l3 := World.block_lt_of_cell? w _ h3
  have l8 := World.block_lt_of_cell? w _ h8
  have l10 := World.block_lt_of_cell? w _ h10
  simp only at l1 l3 l8 l10
  have l9 := World.block_lt_of_cell? w _ (h9 hil)
  simp only at l9
  have h9' := h9 hil
  clear h9
  have hde : ((idx : Int) == (len : Int)) = false := by simp; omega
  have hnn : ∀ w, (binOp .neq 38 (.slice none 0 0) (.slice none 0 0)).run Yba.prog w = .ok (.bool false) w := fun w => run_neq_slice_nil_any w _ _ _ _ _ _ _ Yba.underlying38
  subst hfd
  have g1 : (first : Int) ≤ ((first + d : Nat) : Int) := by omega
  go_enter Yba.func6, Yba.ntmps6
  go_wp2
  go_quiet (fail)
  go_wp2
  go_quiet (fail)
  go_wp2
  go_ret
  exact ⟨rfl, (((Kept.refl _ _).alloc _).drewN _).drewN _⟩

set_option maxHeartbeats 400000 in
theorem words_earlier_a (Wb X E O Lt g lb n s p idx len cap : Nat) (nx e : Int) (first : Nat) (w : World) (hs : s < n) (hn : n ≤ 65536) (hp : p < 4) (hlen : len ≤ 65536)
    (R : Reads w Wb X E O Lt g lb n s p idx len cap nx) (hf : s < first) (hil : idx < len) (hnx : nx < e) (L Rr : Nat) (hLR : L ≠ Rr) (hL : w.heap[L]? = some (.cells #[.slice none 0 0] 25 (0, 0))) (hR : w.heap[Rr]? = some (.cells #[.slice none 0 0] 38 (0, 0))) :
    Calls Yba.prog 6 #[.pointer (some ⟨Wb, 0, none⟩), .int .i64 s, .int .i64 e, .int .i64 first, (.func (.func 5) #[] #[.pointer (some ⟨L, 0, none⟩), .pointer (some ⟨Rr, 0, none⟩)])] w fun e' w' => ∃ q gr cp, e' = .returned (.slice (some ⟨gr, 0, none⟩) 1 1) ∧ w'.cell? ⟨L, 0, none⟩ = some (.slice (some ⟨q, 0, none⟩) 1 cp) ∧ w'.cell? ⟨q, 0, none⟩ = some (.int .i64 s) ∧ w'.cell? ⟨Rr, 0, none⟩ = some (.slice (some ⟨gr, 0, none⟩) 1 1) ∧ w'.cell? ⟨gr, 0, none⟩ = some (.int .u64 (2000 + s)) ∧ Kept (fun k => k = L ∨ k = Rr) w w' := by
  obtain ⟨h1, h2, h3, h4, h5, h6, ⟨kk, k, h7⟩, h8, h9, h10⟩ := R
  have l1 := World.block_lt_of_cell? w _ h1
  have l3 := World.block_lt_of_cell? w _ h3
  have l8 := World.block_lt_of_cell? w _ h8
  have l10 := World.block_lt_of_cell? w _ h10
  simp only at l1 l3 l8 l10
  have l9 := World.block_lt_of_cell? w _ (h9 hil)
  simp only at l9
  have h9' := h9 hil
  clear h9
  have hde : ((idx : Int) == (len : Int)) = false := by simp; omega
  have hgd : ¬ e ≤ nx := by omega
  have g1 : ¬ (first : Int) ≤ (s : Int) := by omega
  go_enter Yba.func6, Yba.ntmps6
  go_wp2
  go_quiet (fail)
  go_wp2_with fail
  refine (earlier_any _ L Rr (by omega) (by omega) hLR _ ?_ ?_).mono ?_
  · show (w.alloc _).heap[L]? = _
    rw [Below.heap_alloc _ _ _ (lt_of_block hL)]; exact hL
  · show (w.alloc _).heap[Rr]? = _
    rw [Below.heap_alloc _ _ _ (lt_of_block hR)]; exact hR
  rintro e' w1 ⟨q, gr, cp, rfl, c1, c2, c3, c4, hk⟩
  have hk2 : Kept (fun k => k = L ∨ k = Rr) w w1 := (((Kept.refl _ w).alloc _).drewN _).trans hk
  have C : Hid (w1.cell? ⟨L, 0, none⟩ = some (.slice (some ⟨q, 0, none⟩) 1 cp) ∧ w1.cell? ⟨q, 0, none⟩ = some (.int .i64 _) ∧ w1.cell? ⟨Rr, 0, none⟩ = some (.slice (some ⟨gr, 0, none⟩) 1 1) ∧ w1.cell? ⟨gr, 0, none⟩ = some (.int .u64 (2000 + _))) := ⟨c1, c2, c3, c4⟩
  clear c1 c2 c3 c4 hk
  go_wp2
  go_ret
  obtain ⟨c1, c2, c3, c4⟩ := C.out
  exact ⟨q, gr, cp, rfl, c1, by simpa using c2, c3, by simpa using c4, hk2⟩

set_option maxHeartbeats 400000 in
theorem words_earlier_b (Wb X E O Lt g lb n s p idx len cap : Nat) (nx e : Int) (first : Nat) (w : World) (hs : s < n) (hn : n ≤ 65536) (hp : p < 4) (hlen : len ≤ 65536)
    (R : Reads w Wb X E O Lt g lb n s p idx len cap nx) (d m S : Nat) (hfd : first + d = s) (hm : d < m) (h7' : w.cell? ⟨Wb, 7, none⟩ = some (.slice (some ⟨S, 0, none⟩) m m)) (hc : w.cell? ⟨S, d, none⟩ = some (.slice none 0 0)) (hil : idx < len) (hnx : nx < e) (L Rr : Nat) (hLR : L ≠ Rr) (hL : w.heap[L]? = some (.cells #[.slice none 0 0] 25 (0, 0))) (hR : w.heap[Rr]? = some (.cells #[.slice none 0 0] 38 (0, 0))) :
    Calls Yba.prog 6 #[.pointer (some ⟨Wb, 0, none⟩), .int .i64 s, .int .i64 e, .int .i64 first, (.func (.func 5) #[] #[.pointer (some ⟨L, 0, none⟩), .pointer (some ⟨Rr, 0, none⟩)])] w fun e' w' => ∃ q gr cp, e' = .returned (.slice (some ⟨gr, 0, none⟩) 1 1) ∧ w'.cell? ⟨L, 0, none⟩ = some (.slice (some ⟨q, 0, none⟩) 1 cp) ∧ w'.cell? ⟨q, 0, none⟩ = some (.int .i64 s) ∧ w'.cell? ⟨Rr, 0, none⟩ = some (.slice (some ⟨gr, 0, none⟩) 1 1) ∧ w'.cell? ⟨gr, 0, none⟩ = some (.int .u64 (2000 + s)) ∧ Kept (fun k => k = L ∨ k = Rr) w w' := by
  obtain ⟨h1, h2, h3, h4, h5, h6, ⟨kk, k, h7⟩, h8, h9, h10⟩ := R
  have l1 := World.block_lt_of_cell? w _ h1
  have l3 := World.block_lt_of_cell? w _ h3
  have l8 := World.block_lt_of_cell? w _ h8
  have l10 := World.block_lt_of_cell? w _ h10
  simp only at l1 l3 l8 l10
  have l9 := World.block_lt_of_cell? w _ (h9 hil)
  simp only at l9
  have h9' := h9 hil
  clear h9
  have hde : ((idx : Int) == (len : Int)) = false := by simp; omega
  have hgd : ¬ e ≤ nx := by omega
  have hnn : ∀ w, (binOp .neq 38 (.slice none 0 0) (.slice none 0 0)).run Yba.prog w = .ok (.bool false) w := fun w => run_neq_slice_nil_any w _ _ _ _ _ _ _ Yba.underlying38
  subst hfd
  have g1 : (first : Int) ≤ ((first + d : Nat) : Int) := by omega
  go_enter Yba.func6, Yba.ntmps6
  go_wp2
  go_quiet (fail)
  go_wp2_with fail
  refine (earlier_any _ L Rr (by omega) (by omega) hLR _ ?_ ?_).mono ?_
  · show (w.alloc _).heap[L]? = _
    rw [Below.heap_alloc _ _ _ (lt_of_block hL)]; exact hL
  · show (w.alloc _).heap[Rr]? = _
    rw [Below.heap_alloc _ _ _ (lt_of_block hR)]; exact hR
  rintro e' w1 ⟨q, gr, cp, rfl, c1, c2, c3, c4, hk⟩
  have hk2 : Kept (fun k => k = L ∨ k = Rr) w w1 := (((Kept.refl _ w).alloc _).drewN _).trans hk
  have C : Hid (w1.cell? ⟨L, 0, none⟩ = some (.slice (some ⟨q, 0, none⟩) 1 cp) ∧ w1.cell? ⟨q, 0, none⟩ = some (.int .i64 _) ∧ w1.cell? ⟨Rr, 0, none⟩ = some (.slice (some ⟨gr, 0, none⟩) 1 1) ∧ w1.cell? ⟨gr, 0, none⟩ = some (.int .u64 (2000 + _))) := ⟨c1, c2, c3, c4⟩
  clear c1 c2 c3 c4 hk
  go_wp2
  go_ret
  obtain ⟨c1, c2, c3, c4⟩ := C.out
  exact ⟨q, gr, cp, rfl, c1, by simpa using c2, c3, by simpa using c4, hk2⟩

end Go.Proofs.Ybulkdhek
