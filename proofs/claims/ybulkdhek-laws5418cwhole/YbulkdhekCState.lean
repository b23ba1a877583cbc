import Derived.Test.YbulkdhekCWalks
namespace Go.Proofs.Ybulkdhek
open Go.RowKit
set_option linter.unusedVariables false

/-- What stays the same: the arguments and the blocks' numbers. K: the counter; C, T: the boxed slices; L: the log's variable; O: the organiser; A: its levels. -/
structure Env where
  w0 : World
  ca : Option Addr
  cl : Nat
  cc : Nat
  cs : List Int
  ta : Option Addr
  tl : Nat
  tc : Nat
  ts : List Bool
  K : Nat
  C : Nat
  L : Nat
  T : Nat
  O : Nat
  A : Nat
  B : Nat
  h : Nat

structure Env.Ok (E : Env) : Prop where
  csl : E.cs.length = E.cl
  cll : E.cl ≤ 9223372036854775807
  tsl : E.ts.length = E.tl
  tll : E.tl ≤ 9223372036854775807
  cLies : LiesC E.w0 E.ca E.cl (fun j => .int .i64 (E.cs.getD j 0))
  tLies : LiesC E.w0 E.ta E.tl (fun j => .bool (E.ts.getD j false))
  hh : E.h ≤ 300
  K1 : E.w0.heap.size ≤ E.K ∧ E.K < E.B
  C1 : E.w0.heap.size ≤ E.C ∧ E.C < E.B
  L1 : E.w0.heap.size ≤ E.L ∧ E.L < E.B
  T1 : E.w0.heap.size ≤ E.T ∧ E.T < E.B
  O1 : E.w0.heap.size ≤ E.O ∧ E.O < E.B
  ne : E.K ≠ E.C ∧ E.K ≠ E.L ∧ E.K ≠ E.T ∧ E.K ≠ E.O ∧ E.C ≠ E.L ∧ E.L ≠ E.T ∧ E.L ≠ E.O

structure St (E : Env) (w : World) (k : Nat) (lg : List Int) (lv : Value) : Prop where
  cK : w.heap[E.K]? = some (.cells #[.int .i64 k] 3 (0, 0))
  cC : w.cell? ⟨E.C, 0, none⟩ = some (.slice E.ca E.cl E.cc)
  cT : w.cell? ⟨E.T, 0, none⟩ = some (.slice E.ta E.tl E.tc)
  cL : w.heap[E.L]? = some (.cells #[lv] 25 (0, 0))
  own : w.ownsRow E.B 3 1 lv lg.length (lg.map (Value.int .i64))
  cO : w.cell? ⟨E.O, 3, none⟩ = some (.slice (some ⟨E.A, 0, none⟩) E.h E.h)
  B1 : E.B ≤ w.heap.size
  below : Below E.w0.heap.size E.w0 w

theorem lies_below {w0 w : World} {a : Option Addr} {n : Nat} {F : Nat → Value} (h : LiesC w0 a n F) (hb : Below w0.heap.size w0 w) : LiesC w a n F := by
  intro j hj
  obtain ⟨b, o, e, hl, hc⟩ := h j hj
  exact ⟨b, o, e, Nat.lt_of_lt_of_le hl hb.size, fun i hi => (hb.cell (p := ⟨b, o + i, none⟩) hl).trans (hc i hi)⟩

theorem cell_other {w : World} {p : Addr} {u : Value} {b j : Nat} {x : Value} (hc : w.cell? ⟨b, j, none⟩ = some x) (hb : b ≠ p.block) : (w.setCell p u).cell? ⟨b, j, none⟩ = some x :=
  (World.cell?_of_block (w := w) (a := ⟨b, j, none⟩) (Below.heap_setCell _ _ _ _ hb)).trans hc

theorem St.setK {E : Env} (hE : E.Ok) {w : World} {k : Nat} {lg : List Int} {lv : Value} (h : St E w k lg lv) {y : Int} (hy : y = (k : Int) + 1) : St E (w.setCell ⟨E.K, 0, none⟩ (.int .i64 y)) (k + 1) lg lv := by
  subst hy
  obtain ⟨n1, n2, n3, n4, n5, n6, n7⟩ := hE.ne
  refine ⟨one_setCell h.cK, cell_other h.cC (fun e => n1 e.symm), cell_other h.cT (fun e => n3 e.symm), ?_, ownsRow_setCell_below h.own hE.K1.2 _, cell_other h.cO (fun e => n4 e.symm), by simpa using h.B1, h.below.setCell hE.K1.1 _⟩
  rw [Below.heap_setCell _ _ _ _ (fun e => n2 e.symm)]; exact h.cL

/-- Behind the append to the log, and the store of its variable. -/
theorem St.append {E : Env} (hE : E.Ok) {w w1 : World} {k : Nat} {lg : List Int} {lv : Value} (h : St E w k lg lv) {l : Int} {o : Obj} {g cap : Nat}
    (hown : w1.ownsRow E.B 3 1 (.slice (some ⟨g, 0, none⟩) (lg.length + 1) cap) (lg.length + 1) (lg.map (Value.int .i64) ++ [.int .i64 l])) (hgrow : (w.alloc o).grownBy w1 lv.ownBlock) :
    w1.cell? ⟨E.L, 0, none⟩ = some lv ∧ w1.frozen? ⟨E.L, 0, none⟩ = false ∧ w1.cell? ⟨E.T, 0, none⟩ = some (.slice E.ta E.tl E.tc) ∧
    St E (w1.setCell ⟨E.L, 0, none⟩ (.slice (some ⟨g, 0, none⟩) (lg.length + 1) cap)) k (lg ++ [l]) (.slice (some ⟨g, 0, none⟩) (lg.length + 1) cap) := by
  obtain ⟨n1, n2, n3, n4, n5, n6, n7⟩ := hE.ne
  have key : ∀ b, b < E.B → ¬ (some b = lv.ownBlock) := fun b hlt e => by have := (h.own.lt b e.symm).1; omega
  have K1 : Kept (fun b => some b = lv.ownBlock) w w1 := ((Kept.refl _ w).alloc o).grown hgrow (fun b e _ => e.symm)
  have hL1 := K1.at h.cL (key _ hE.L1.2)
  have cell : ∀ {b j : Nat} {x : Value}, b < E.B → w.cell? ⟨b, j, none⟩ = some x → w1.cell? ⟨b, j, none⟩ = some x := fun {b j x} hb hc =>
    (World.cell?_of_block (w := w) (a := ⟨b, j, none⟩) (K1.block b (World.block_lt_of_cell? w _ hc) (key b hb))).trans hc
  refine ⟨cell_of_one hL1, free_of_one hL1, cell hE.T1.2 h.cT, ?_⟩
  refine ⟨?_, cell_other (cell hE.C1.2 h.cC) n5, cell_other (cell hE.T1.2 h.cT) (fun e => n6 e.symm), one_setCell hL1, ?_, cell_other (cell hE.O1.2 h.cO) (fun e => n7 e.symm), by have := K1.size; have := h.B1; simp; omega, ?_⟩
  · rw [Below.heap_setCell _ _ _ _ n2]; exact K1.at h.cK (key _ hE.K1.2)
  · rw [List.length_append, List.map_append]
    exact ownsRow_setCell_below hown hE.L1.2 _
  · refine (h.below.trans (K1.below (B := E.w0.heap.size) h.below.size (fun b e => ?_))).setCell hE.L1.1 _
    have := (h.own.lt b e.symm).1
    have := hE.K1
    omega

set_option maxHeartbeats 400000 in
theorem cclos (E : Env) (hE : E.Ok) (w : World) (k : Nat) (lg : List Int) (lv : Value) (h : St E w k lg lv) (l : Int) (hk : k ≤ 1000000) :
    Calls Yba.prog 8 #[.int .i64 l, .pointer (some ⟨E.K, 0, none⟩), .pointer (some ⟨E.C, 0, none⟩)] w fun e w' => e = .returned (.int .i64 (cF E.cs l)) ∧ St E w' (k + 1) lg lv := by
  have c1 := cell_of_one h.cK
  have c2 := free_of_one h.cK
  have c3 := h.cC
  obtain ⟨n1, n2, n3, n4, n5, n6, n7⟩ := hE.ne
  have n1' : E.C ≠ E.K := fun e => n1 e.symm
  have HS : Hid (St E (w.setCell ⟨E.K, 0, none⟩ (.int .i64 ((k : Int) + 1))) (k + 1) lg lv) := h.setK hE rfl
  clear h
  go_enter Yba.func8, Yba.ntmps8
  go_wp2_with (go_at_call 9; refine (cost_any E.ca E.cl E.cc E.cs l _ hE.csl hE.cll (lies_below hE.cLies HS.out.below)).mono ?_; rintro e w' ⟨rfl, rfl⟩)
  go_ret
  exact ⟨rfl, HS.out⟩

set_option maxHeartbeats 400000 in
theorem rclos (E : Env) (hE : E.Ok) (w : World) (k : Nat) (lg : List Int) (lv : Value) (h : St E w k lg lv) (l : Int) (hl : lg.length ≤ 1000000) :
    Calls Yba.prog 10 #[.int .i64 l, .pointer (some ⟨E.L, 0, none⟩), .pointer (some ⟨E.T, 0, none⟩)] w fun e w' => e = .returned (.bool (rF E.ts l)) ∧ ∃ lv', St E w' k (lg ++ [l]) lv' := by
  obtain ⟨i0, hi, hz0, hz1, hz2⟩ := info_parts (show (Yba.prog.info? 3).map (fun i => (i.zero, i.size, i.bytes)) = some (some (.int .i64 0), 1, 8) by kernel_rfl)
  have c1 := cell_of_one h.cL
  have c2 := free_of_one h.cL
  have H : Hid (St E w k lg lv) := h
  have hB := h.B1
  clear h
  go_enter Yba.func10, Yba.ntmps10
  go_wp2_with (at_builtin; refine wpList_append_lies _ rfl _ _ 25 rfl E.B 3 i0 (.int .i64 0) 1 8 Yba.underlying25 hi hz0 hz1 hz2 rfl (by decide) lv lg.length (lg.map (Value.int .i64)) rfl (H.out.own.alloc _) ⟨w.heap.size, 0, none⟩ 1 1 [.int .i64 l] rfl rfl (cell_one_new _ _ _) (by intro u hu; simp at hu; subst hu; rfl) (by decide) (by simp [maxLen]; omega) (by omega) (by simp; omega) (w.heap.size + 1) (by simp) ?_)
  intro g cap w1 hown hgrow _ _
  obtain ⟨d1, d2, d3, HS0⟩ := H.out.append hE hown hgrow
  have HS : Hid _ := HS0
  obtain ⟨n1, n2, n3, n4, n5, n6, n7⟩ := hE.ne
  have n6' : E.T ≠ E.L := fun e => n6 e.symm
  clear hown hgrow HS0
  go_wp2_with (go_at_call 11; refine (ref_any true E.ta E.tl E.tc E.ts l _ hE.tsl hE.tll (lies_below hE.tLies HS.out.below)).mono ?_; rintro e w' ⟨rfl, rfl⟩)
  go_ret
  exact ⟨by simp, _, HS.out⟩
end Go.Proofs.Ybulkdhek
