import Derived.Test.YbulkdhekBWords
import Derived.Test.YbulkdhekBSame
import Derived.Test.YbulkdhekBPlain
import Derived.Test.YbulkdhekRow
namespace Go.Proofs.Ybulkdhek
open Go.RowKit
set_option linter.unusedVariables false

/-- The process of event i. -/
def fp (zs : List Int) (i : Nat) : Nat := (zs.getD i 0 % 4).toNat

theorem fp_lt (zs : List Int) (i : Nat) : fp zs i < 4 := by unfold fp; omega

/-- What is known of a slice that is read: where it has elements it has an address; its cells. -/
def Lies (w : World) (a : Option Addr) (n : Nat) (F : Nat → Value) : Prop := ∀ j, j < n → ∃ b o, a = some ⟨b, o, none⟩ ∧ b < w.heap.size ∧ ∀ i, i < n → w.cell? ⟨b, o + i, none⟩ = some (F i)

theorem row_made {w : World} {base g n : Nat} {e : TypeId} {z : Int} (ho : w.ownsRow base e 1 (.slice (some ⟨g, 0, none⟩) n n) n (madeCells (Value.int .i64 z).cells (n * 1)).toList) (hg : g < w.heap.size) : Row w g n (fun _ => .int .i64 z) := by
  have h := Row.of_owns ho hg
  rw [Nat.mul_one] at h
  refine h.congr (fun j hj => ?_)
  simp [Value.cells, toList_madeCells_one, List.getD, hj]

theorem rel1_hit {wr : World} {P n k : Nat} {zs : List Int} {z : Int} (h : Row wr P n (fun j => .int .i64 (if j < k then (fp zs j : Int) else 0))) (hb : 0 ≤ z) (hz : zs.getD k 0 = z) :
    Row (wr.setCell ⟨P, k, none⟩ (.int .i64 (z % 4))) P n (fun j => .int .i64 (if j < k + 1 then (fp zs j : Int) else 0)) := by
  refine (h.set k _).congr (fun j hj => ?_)
  by_cases e : j = k
  · subst e
    have : ((fp zs j : Nat) : Int) = z % 4 := by unfold fp; rw [hz]; omega
    simp [this]
  · by_cases e2 : j < k
    · simp [e, e2, show j < k + 1 by omega]
    · simp [e, e2, show ¬ j < k + 1 by omega]
theorem rel1_miss {wr : World} {P n k : Nat} {zs : List Int} (h : Row wr P n (fun j => .int .i64 (if j < k then (fp zs j : Int) else 0))) (hb : zs.length ≤ k) :
    Row wr P n (fun j => .int .i64 (if j < k + 1 then (fp zs j : Int) else 0)) := by
  refine h.congr (fun j hj => ?_)
  by_cases e : j = k
  · subst e
    have : fp zs j = 0 := by unfold fp; simp [List.getD, List.getElem?_eq_none hb]
    simp [this]
  · by_cases e2 : j < k
    · simp [e2, show j < k + 1 by omega]
    · simp [e2, show ¬ j < k + 1 by omega]

theorem info35 : (Yba.prog.info? 35).map (fun i => (i.zero, i.size, i.bytes)) = some (some (.agg #[.int .i64 0, .int .i64 0, .int .u8 0]), 3, 24) := by kernel_rfl
theorem info25 : (Yba.prog.info? 25).map (fun i => (i.zero, i.size, i.bytes)) = some (some (.slice none 0 0), 1, 24) := by kernel_rfl
theorem info38 : (Yba.prog.info? 38).map (fun i => (i.zero, i.size, i.bytes)) = some (some (.slice none 0 0), 1, 24) := by kernel_rfl

theorem make27 (w : World) (n : Nat) (hn : n ≤ 65536) : (Instr.makeSlice 27 (.int .i64 n) (.int .i64 n)).run Yba.prog w = .ok (.slice (some ⟨w.heap.size, 0, none⟩) n n) (w.alloc (.cells (madeCells #[.int .i64 0, .int .i64 0, .int .u8 0] (n * 3)) 35)) := by
  obtain ⟨i0, hi, hz0, hz1, hz2⟩ := info_parts info35
  have h := run_make (P := Yba.prog) w 27 35 i0 _ Yba.underlying27 hi hz0 .i64 .i64 n n (by omega) (by omega) (by rw [hz2]; omega) (by omega)
  simpa [hz1, Value.cells] using h
theorem make28 (w : World) : (Instr.makeSlice 28 (.int .i64 4) (.int .i64 4)).run Yba.prog w = .ok (.slice (some ⟨w.heap.size, 0, none⟩) 4 4) (w.alloc (.cells #[.slice none 0 0, .slice none 0 0, .slice none 0 0, .slice none 0 0] 25)) := by
  obtain ⟨i0, hi, hz0, hz1, hz2⟩ := info_parts info25
  have h := run_make (P := Yba.prog) w 28 25 i0 _ Yba.underlying28 hi hz0 .i64 .i64 4 4 (by omega) (by omega) (by rw [hz2]; omega) (by omega)
  have e : madeCells (Value.slice none 0 0).cells (Int.toNat 4 * 1) = #[.slice none 0 0, .slice none 0 0, .slice none 0 0, .slice none 0 0] := by simp [madeCells, Value.cells, Array.range]; rfl
  rw [hz1, e] at h
  exact h

/-- What the call has built behind k rounds of the second loop. -/
structure Built (w wr : World) (P X E O B n k m : Nat) (zs : List Int) (v : Nat → Value) : Prop where
  pr : Row wr P n (fun j => .int .i64 (fp zs j))
  x2 : wr.cell? ⟨X, 2, none⟩ = some (.slice (some ⟨E, 0, none⟩) n n)
  x3 : wr.cell? ⟨X, 3, none⟩ = some (.slice (some ⟨O, 0, none⟩) 4 4)
  ev : ∃ F, Row wr E (n * 3) F ∧ ∀ i, i < m → F (i * 3) = .int .i64 (fp zs i) ∧ F (i * 3 + 1) = .int .i64 ((pos (fp zs) (fp zs i) i).length + 1 : Nat) ∧ ∃ kk x, F (i * 3 + 2) = .int kk x
  on : Row wr O 4 v
  lists : ∀ p, p < 4 → wr.ownsRow B 3 1 (v p) (pos (fp zs) p k).length ((pos (fp zs) p k).map fun (j : Nat) => .int .i64 j)
  nil : ∀ p, p < 4 → pos (fp zs) p k = [] → v p = .slice none 0 0
  P1 : w.heap.size ≤ P ∧ P < B
  X1 : w.heap.size ≤ X ∧ X < B
  E1 : w.heap.size ≤ E ∧ E < B
  O1 : w.heap.size ≤ O ∧ O < B
  ne : P ≠ X ∧ P ≠ E ∧ P ≠ O ∧ X ≠ E ∧ X ≠ O ∧ E ≠ O
  B1 : B ≤ wr.heap.size
  kept : Kept (fun k => False) w wr

theorem heap3_0 (w : World) (a b c : Obj) : (((w.alloc a).alloc b).alloc c).heap[w.heap.size]? = some a := by
  rw [Below.heap_alloc _ _ _ (by simp; omega), Below.heap_alloc _ _ _ (by simp)]; exact heap_alloc_new w a
theorem heap3_1 (w : World) (a b c : Obj) : (((w.alloc a).alloc b).alloc c).heap[w.heap.size + 1]? = some b := by
  rw [Below.heap_alloc _ _ _ (by simp)]; simpa using heap_alloc_new (w.alloc a) b
theorem heap3_2 (w : World) (a b c : Obj) : (((w.alloc a).alloc b).alloc c).heap[w.heap.size + 1 + 1]? = some c := by
  simpa using heap_alloc_new ((w.alloc a).alloc b) c
theorem built_start {w wc W : World} {P X E O B n : Nat} {zs : List Int} {t : TypeId} {a0 a1 a4 a5 : Value} (hR : Row wc P n (fun j => .int .i64 (fp zs j))) (hk : Kept (fun _ => False) w wc)
    (hP : w.heap.size ≤ P) (hX : wc.heap.size ≤ X) (hE : wc.heap.size ≤ E) (hO : wc.heap.size ≤ O) (h1 : X ≠ E) (h2 : X ≠ O) (h3 : E ≠ O)
    (bE : W.heap[E]? = some (.cells (madeCells #[.int .i64 0, .int .i64 0, .int .u8 0] (n * 3)) 35 (0, 0)))
    (bO : W.heap[O]? = some (.cells #[.slice none 0 0, .slice none 0 0, .slice none 0 0, .slice none 0 0] 25 (0, 0)))
    (bX : W.heap[X]? = some (.cells #[a0, a1, .slice (some ⟨E, 0, none⟩) n n, .slice (some ⟨O, 0, none⟩) 4 4, a4, a5] t (0, 0))) (hW : Kept (fun _ => False) wc W) (hB : B = W.heap.size) :
    Built w W P X E O B n 0 0 zs (fun _ => .slice none 0 0) := by
  subst hB
  have l1 := hR.lt
  have l2 := hk.size
  have l3 := hW.size
  have l4 := lt_of_block bE
  have l5 := lt_of_block bO
  have l6 := lt_of_block bX
  refine ⟨hR.kept hW (by simp), by simp [World.cell?, bX], by simp [World.cell?, bX], ⟨_, by simpa [size_madeCells] using Row.of_cells bE, fun i hi => absurd hi (Nat.not_lt_zero _)⟩, ?_, fun p hp => ?_, fun p hp _ => rfl, ⟨hP, by omega⟩, ⟨by omega, by omega⟩, ⟨by omega, by omega⟩, ⟨by omega, by omega⟩, ⟨by omega, by omega, by omega, h1, h2, h3⟩, Nat.le_refl _, hk.trans hW⟩
  · refine (Row.of_cells bO).congr (fun j hj => ?_)
    match j, hj with
    | 0, _ => rfl
    | 1, _ => rfl
    | 2, _ => rfl
    | 3, _ => rfl
  · exact World.ownsRow_nil _ _ _ _

theorem owns_shape {w : World} {base : Nat} {e : TypeId} {size : Nat} {v : Value} {n : Nat} {xs : List Value} (h : w.ownsRow base e size v n xs) : ∃ ao cp, v = .slice ao n cp := by
  rcases h.2 with ⟨rfl, rfl⟩ | ⟨g, cap, cur, rfl, _⟩
  · exact ⟨_, _, rfl⟩
  · exact ⟨_, _, rfl⟩

theorem Row.set_other {w : World} {b n : Nat} {F : Nat → Value} (h : Row w b n F) {a : Addr} (hb : b ≠ a.block) (u : Value) : Row (w.setCell a u) b n F := h.of_block (Below.heap_setCell _ _ _ _ hb)
theorem cell_set_other {w : World} {a : Addr} {b j : Nat} (hb : b ≠ a.block) (u : Value) : (w.setCell a u).cell? ⟨b, j, none⟩ = w.cell? ⟨b, j, none⟩ := World.cell?_of_block (w := w) (a := ⟨b, j, none⟩) (Below.heap_setCell _ _ _ _ hb)

/-- A store into a block of the call's own, below B and not one of O, P, X. -/
theorem built_event {w wr : World} {P X E O B n k : Nat} {zs : List Int} {v : Nat → Value} {p L : Nat} {y : Int} (h : Built w wr P X E O B n k k zs v) (hk : k < n) (hp : fp zs k = p) (hL : (pos (fp zs) p k).length = L) (hy : y = (L : Int) + 1) :
    Built w (((wr.setCell ⟨E, k * 3, none⟩ (.int .i64 p)).setCell ⟨E, k * 3 + 1, none⟩ (.int .i64 y)).setCell ⟨E, k * 3 + 2, none⟩ (.int .u8 0)).drew P X E O B n k (k + 1) zs v := by
  subst hy
  obtain ⟨n1, n2, n3, n4, n5, n6⟩ := h.ne
  have hE1 := h.E1
  have K : Kept (fun b => b = E) wr (((wr.setCell ⟨E, k * 3, none⟩ (.int .i64 p)).setCell ⟨E, k * 3 + 1, none⟩ (.int .i64 (L + 1))).setCell ⟨E, k * 3 + 2, none⟩ (.int .u8 0)).drew :=
    ((((Kept.refl (fun b => b = E) wr).setCell (p := ⟨E, k * 3, none⟩) (fun _ => rfl) _).setCell (p := ⟨E, k * 3 + 1, none⟩) (fun _ => rfl) _).setCell (p := ⟨E, k * 3 + 2, none⟩) (fun _ => rfl) _).drew
  have hX := (h.X1)
  have hXl : X < wr.heap.size := by have := h.B1; omega
  refine ⟨h.pr.kept K n2, ?_, ?_, ?_, h.on.kept K (fun e => n6 e.symm), fun q hq => ?_, h.nil, h.P1, h.X1, h.E1, h.O1, h.ne, Nat.le_trans h.B1 K.size, ?_⟩
  · exact (World.cell?_of_block (w := wr) (a := ⟨X, 2, none⟩) (K.block X hXl n4)).trans h.x2
  · exact (World.cell?_of_block (w := wr) (a := ⟨X, 3, none⟩) (K.block X hXl n4)).trans h.x3
  · obtain ⟨F, hF, hF'⟩ := h.ev
    have R := ((hF.set (k * 3) (.int .i64 p)).set (k * 3 + 1) (.int .i64 (L + 1))).set (k * 3 + 2) (.int .u8 0)
    refine ⟨_, ⟨R.lt, R.cell, R.free⟩, fun i hi => ?_⟩
    by_cases e : i = k
    · subst e
      simp only [show i * 3 ≠ i * 3 + 2 by omega, show i * 3 ≠ i * 3 + 1 by omega, show i * 3 + 1 ≠ i * 3 + 2 by omega, if_false, if_true]
      exact ⟨by rw [hp], by rw [hp, hL]; rfl, .u8, 0, rfl⟩
    · simp only [show i * 3 ≠ k * 3 + 2 by omega, show i * 3 ≠ k * 3 + 1 by omega, show i * 3 ≠ k * 3 by omega, show i * 3 + 1 ≠ k * 3 + 2 by omega, show i * 3 + 1 ≠ k * 3 + 1 by omega, show i * 3 + 1 ≠ k * 3 by omega,
        show i * 3 + 2 ≠ k * 3 + 2 by omega, show i * 3 + 2 ≠ k * 3 + 1 by omega, show i * 3 + 2 ≠ k * 3 by omega, if_false]
      exact hF' i (by omega)
  · exact (ownsRow_setCell_below (ownsRow_setCell_below (ownsRow_setCell_below (h.lists q hq) hE1.2 _) hE1.2 _) hE1.2 _).drew
  · exact h.kept.then K (fun b hb e => by subst e; omega)

/-- The cells of X and of O behind the append: it writes one of the call's own rows from B on, or a new one. -/
theorem append_behind {wc wa w1 : World} {B X O p : Nat} {v : Value} {x y : Value} {n : Nat} {xs : List Value} (hv : wc.ownsRow B 3 1 v n xs) (hgrow : wa.grownBy w1 v.ownBlock) (hb : B ≤ wc.heap.size ∧ O < B ∧ X < B)
    (hXa : wa.cell? ⟨X, 3, none⟩ = some x) (hOa : wa.cell? ⟨O, p, none⟩ = some y) (hOf : wa.frozen? ⟨O, p, none⟩ = false) :
    w1.cell? ⟨X, 3, none⟩ = some x ∧ w1.cell? ⟨O, p, none⟩ = some y ∧ w1.frozen? ⟨O, p, none⟩ = false := by
  have key : ∀ b, b < B → some b ≠ v.ownBlock := fun b hlt e => by have := (hv.lt b e.symm).1; omega
  have lX := World.block_lt_of_cell? wa _ hXa
  have lO := World.block_lt_of_cell? wa _ hOa
  exact ⟨(World.cell?_of_block (w := wa) (a := ⟨X, 3, none⟩) (hgrow.block X lX (key X hb.2.2))).trans hXa, (World.cell?_of_block (w := wa) (a := ⟨O, p, none⟩) (hgrow.block O lO (key O hb.2.1))).trans hOa,
    (World.frozen?_of_block (w := wa) (a := ⟨O, p, none⟩) (hgrow.block O lO (key O hb.2.1))).trans hOf⟩

theorem own_apart {w : World} {B : Nat} {v v' : Value} {n n' : Nat} {x y : Value} {xs ys : List Value} (h : w.ownsRow B 3 1 v n (x :: xs)) (h' : w.ownsRow B 3 1 v' n' (y :: ys)) (hxy : x ≠ y) : v'.ownBlock ≠ v.ownBlock := by
  intro e
  have h1 := h.1
  have h1' := h'.1
  rcases h.2 with ⟨_, h0⟩ | ⟨g, cap, cur, rfl, _, hg, _, _, _, ht⟩
  · subst h0; simp at h1
  rcases h'.2 with ⟨_, h0⟩ | ⟨g', cap', cur', rfl, _, hg', _, _, _, ht'⟩
  · subst h0; simp at h1'
  simp [Value.ownBlock] at e
  subst e
  rw [hg] at hg'
  simp at hg'
  subst hg'
  apply hxy
  have a1 : cur.toList[0]? = some x := by
    have := congrArg (fun l => l[0]?) ht
    simp [List.getElem?_take] at this
    simpa using this.2
  have a2 : cur.toList[0]? = some y := by
    have := congrArg (fun l => l[0]?) ht'
    simp [List.getElem?_take] at this
    simpa using this.2
  rw [a1] at a2
  exact Option.some.inj a2

theorem lists_apart {w wr : World} {P X E O B n k m : Nat} {zs : List Int} {v : Nat → Value} (h : Built w wr P X E O B n k m zs v) {p q : Nat} (hp : p < 4) (hq : q < 4) (hpq : q ≠ p) : (v q).ownBlock = none ∨ (v q).ownBlock ≠ (v p).ownBlock := by
  cases hlq : pos (fp zs) q k with
  | nil => left; rw [h.nil q hq hlq]; rfl
  | cons a rest1 =>
    right
    cases hlp : pos (fp zs) p k with
    | nil =>
      rw [h.nil p hp hlp]
      rcases (h.lists q hq).2 with ⟨_, h0⟩ | ⟨g, cap, cur, e, _⟩
      · rw [hlq] at h0; simp at h0
      · rw [e]; simp [Value.ownBlock]
    | cons c rest2 =>
      have h1 := h.lists p hp
      have h2 := h.lists q hq
      rw [hlp] at h1
      rw [hlq] at h2
      refine own_apart h1 h2 (fun e => hpq ?_)
      simp at e
      have f1 := pos_mem (f := fp zs) (p := p) (k := k) (j := c) (by rw [hlp]; simp)
      have f2 := pos_mem (f := fp zs) (p := q) (k := k) (j := a) (by rw [hlq]; simp)
      have : c = a := by omega
      subst this
      rw [← f2, ← f1]

theorem built_append {w wc w1 : World} {P X E O B n k m : Nat} {zs : List Int} {v : Nat → Value} {p L g cap : Nat} {o : Obj} (h : Built w wc P X E O B n k m zs v) (hp4 : p < 4) (hp : fp zs k = p) (hL : (pos (fp zs) p k).length = L)
    (hown : w1.ownsRow B 3 1 (.slice (some ⟨g, 0, none⟩) (L + 1) cap) (L + 1) (((pos (fp zs) p k).map fun (j : Nat) => .int .i64 j) ++ [.int .i64 k])) (hgrow : (wc.alloc o).drew.grownBy w1 (v p).ownBlock) :
    Built w (w1.setCell ⟨O, p, none⟩ (.slice (some ⟨g, 0, none⟩) (L + 1) cap)) P X E O B n (k + 1) m zs (fun q => if q = p then .slice (some ⟨g, 0, none⟩) (L + 1) cap else v q) := by
  obtain ⟨n1, n2, n3, n4, n5, n6⟩ := h.ne
  have hOB := h.O1.2
  have hPB := h.P1.2
  have hXB := h.X1.2
  have hEB := h.E1.2
  have hB := h.B1
  have key : ∀ b, b < B → ¬ (some b = (v p).ownBlock) := fun b hlt e => by have := ((h.lists p hp4).lt b e.symm).1; omega
  have K1 : Kept (fun b => some b = (v p).ownBlock) wc w1 := ((Kept.refl _ wc).alloc o).drew.grown hgrow (fun b e _ => e.symm)
  have K : Kept (fun b => some b = (v p).ownBlock ∨ b = O) wc (w1.setCell ⟨O, p, none⟩ (.slice (some ⟨g, 0, none⟩) (L + 1) cap)) := (K1.mono (T := fun b => some b = (v p).ownBlock ∨ b = O) (fun b _ e => Or.inl e)).setCell (p := ⟨O, p, none⟩) (fun _ => .inr rfl) _
  have hXl : X < wc.heap.size := by omega
  have nX : ¬ (some X = (v p).ownBlock ∨ X = O) := fun e => e.elim (key X hXB) n5
  refine ⟨h.pr.kept K (fun e => e.elim (key P hPB) n3), ?_, ?_, ?_, ?_, fun q hq => ?_, fun q hq he => ?_, h.P1, h.X1, h.E1, h.O1, h.ne, Nat.le_trans h.B1 K.size, ?_⟩
  · exact (World.cell?_of_block (w := wc) (a := ⟨X, 2, none⟩) (K.block X hXl nX)).trans h.x2
  · exact (World.cell?_of_block (w := wc) (a := ⟨X, 3, none⟩) (K.block X hXl nX)).trans h.x3
  · obtain ⟨F, hF, hF'⟩ := h.ev
    exact ⟨F, hF.kept K (fun e => e.elim (key E hEB) n6), hF'⟩
  · exact ((h.on.kept K1 (key O hOB)).set p _)
  · refine ownsRow_setCell_below ?_ hOB _
    by_cases e : q = p
    · subst e
      rw [pos_hit hp, if_pos rfl, List.length_append, hL, List.map_append]
      exact hown
    · rw [pos_miss (fun e' => e (e'.symm.trans hp)), if_neg e]
      exact ((h.lists q hq).alloc o).drew.kept hgrow (lists_apart h hp4 hq e)
  · by_cases e : q = p
    · subst e; rw [pos_hit hp] at he; simp at he
    · rw [pos_miss (fun e' => e (e'.symm.trans hp))] at he; rw [if_neg e]; exact h.nil q hq he
  · refine h.kept.then K (fun b hb e => ?_)
    rcases e with e | e
    · have := ((h.lists p hp4).lt b e.symm).1
      have := h.P1
      omega
    · have := h.O1; omega

theorem nat_tmod {a : Int} {n : Nat} (ha : 0 ≤ a) (hn : 0 < n) : ∃ s : Nat, s < n ∧ a.tmod (n : Int) = (s : Int) := by
  have h1 := Int.emod_nonneg a (show (n : Int) ≠ 0 by omega)
  have h2 := Int.emod_lt_of_pos a (show (0 : Int) < n by omega)
  exact ⟨(a % n).toNat, by omega, by rw [Int.tmod_eq_emod_of_nonneg ha]; omega⟩

theorem make36 (w : World) (m : Nat) (hm : m ≤ 65536) : (Instr.makeSlice 36 (.int .i64 m) (.int .i64 m)).run Yba.prog w = .ok (.slice (some ⟨w.heap.size, 0, none⟩) m m) (w.alloc (.cells (madeCells #[.slice none 0 0] m) 38)) := by
  obtain ⟨i0, hi, hz0, hz1, hz2⟩ := info_parts info38
  have h := run_make (P := Yba.prog) w 36 38 i0 _ Yba.underlying36 hi hz0 .i64 .i64 m m (by omega) (by omega) (by rw [hz2]; omega) (by omega)
  simpa [hz1, Value.cells] using h

/-- What 'sent' ('latest') holds behind k rounds of the third (fourth) loop; w0: the world ahead of it; q: the slices' length; c: their first cell's base. -/
structure Sent (w0 wr : World) (S m k : Nat) (mk : Nat → Bool) (q : Nat) (c : Int) (sb : Nat → Nat) : Prop where
  row : Row wr S m (fun i => if i < k ∧ mk i = true then .slice (some ⟨sb i, 0, none⟩) q q else .slice none 0 0)
  cells : ∀ i, i < k → mk i = true → S < sb i ∧ wr.cell? ⟨sb i, 0, none⟩ = some (.int .u64 (c + i))
  kept : Kept (fun b => b = S) w0 wr

theorem sent_start (wc : World) (m : Nat) (mk : Nat → Bool) (q : Nat) (c : Int) : Sent (wc.alloc (.cells (madeCells #[.slice none 0 0] m) 38)) (wc.alloc (.cells (madeCells #[.slice none 0 0] m) 38)) wc.heap.size m 0 mk q c (fun _ => 0) := by
  refine ⟨?_, fun i hi => absurd hi (Nat.not_lt_zero _), Kept.refl _ _⟩
  have h := Row.new wc (madeCells #[.slice none 0 0] m) 38
  rw [size_madeCells] at h
  refine h.congr (fun j hj => ?_)
  have e : (madeCells #[Value.slice none 0 0] m)[j]? = some (.slice none 0 0) := by
    rw [← Array.getElem?_toList, toList_madeCells_one]; simp [hj]
  simp [Array.getD_eq_getD_getElem?, e]

theorem sent_miss {w0 wr : World} {S m k : Nat} {mk : Nat → Bool} {q : Nat} {c : Int} {sb : Nat → Nat} (h : Sent w0 wr S m k mk q c sb) (hk : mk k = false) : Sent w0 wr S m (k + 1) mk q c sb := by
  refine ⟨h.row.congr (fun j hj => ?_), fun i hi hm => ?_, h.kept⟩
  · by_cases e : j = k
    · subst e; simp [hk]
    · by_cases e2 : j < k
      · simp [e2, show j < k + 1 by omega]
      · simp [e2, show ¬ j < k + 1 by omega]
  · by_cases e : i = k
    · subst e; rw [hk] at hm; cases hm
    · exact h.cells i (by omega) hm

theorem sent_hit {w0 wr : World} {S m k : Nat} {mk : Nat → Bool} {q : Nat} {c : Int} {sb : Nat → Nat} {arr : Array Value} (h : Sent w0 wr S m k mk q c sb) (hk : mk k = true) (hx : arr[0]? = some (.int .u64 (c + k))) :
    Sent w0 ((wr.setCell ⟨S, k, none⟩ (.slice (some ⟨wr.heap.size, 0, none⟩) q q)).alloc (.cells arr 37)) S m (k + 1) mk q c (fun i => if i = k then wr.heap.size else sb i) := by
  have R := h.row.set k (.slice (some ⟨wr.heap.size, 0, none⟩) q q)
  have hS := R.lt
  have K1 : Kept (fun b => b = S) wr (wr.setCell ⟨S, k, none⟩ (.slice (some ⟨wr.heap.size, 0, none⟩) q q)) := (Kept.refl (fun b => b = S) wr).setCell (p := ⟨S, k, none⟩) (fun _ => rfl) _
  have K2 := K1.alloc (.cells arr 37)
  have R2 : Row ((wr.setCell ⟨S, k, none⟩ (.slice (some ⟨wr.heap.size, 0, none⟩) q q)).alloc (.cells arr 37)) S m _ := R.of_block (Below.heap_alloc _ _ _ hS)
  refine ⟨R2.congr (fun j hj => ?_), fun i hi hm => ?_, h.kept.trans K2⟩
  · by_cases e : j = k
    · subst e; simp [hk]
    · by_cases e2 : j < k
      · simp [e, e2, show j < k + 1 by omega]
      · simp [e, e2, show ¬ j < k + 1 by omega]
  · by_cases e : i = k
    · subst e
      have hl := h.row.lt
      refine ⟨by simpa using hl, ?_⟩
      rw [if_pos rfl]
      have : wr.heap.size = (wr.setCell ⟨S, i, none⟩ (.slice (some ⟨wr.heap.size, 0, none⟩) q q)).heap.size := by simp
      rw [World.cell?_alloc_at _ _ _ _ this]
      exact hx
    · obtain ⟨c1, c2⟩ := h.cells i (by omega) hm
      rw [if_neg e]
      refine ⟨c1, ?_⟩
      have hb := World.block_lt_of_cell? wr _ c2
      exact (World.cell?_of_block (w := wr) (a := ⟨sb i, 0, none⟩) (K2.block (sb i) hb (by omega))).trans c2

theorem made4 : madeCells #[Value.slice none 0 0] 4 = #[.slice none 0 0, .slice none 0 0, .slice none 0 0, .slice none 0 0] := by simp [madeCells, Array.range]; rfl
theorem make36_4 (w : World) : (Instr.makeSlice 36 (.int .i64 4) (.int .i64 4)).run Yba.prog w = .ok (.slice (some ⟨w.heap.size, 0, none⟩) 4 4) (w.alloc (.cells (madeCells #[.slice none 0 0] 4) 38)) := make36 w 4 (by omega)

/-- The mask at place i. -/
def mk (ms : List Bool) (ml i : Nat) : Bool := decide (0 < ml) && ms.getD (i % ml) false
end Go.Proofs.Ybulkdhek
