import Derived.Test.YbulkdhekKept
namespace Go.Proofs.Ybulkdhek
open Go.RowKit

/-- A block of n cells (or more) that may be written: cell j holds F j. -/
structure Row (w : World) (b n : Nat) (F : Nat → Value) : Prop where
  lt : b < w.heap.size
  cell : ∀ j, j < n → w.cell? ⟨b, j, none⟩ = some (F j)
  free : ∀ j, w.frozen? ⟨b, j, none⟩ = false

theorem Row.of_block {w w' : World} {b n : Nat} {F : Nat → Value} (h : Row w b n F) (hb : w'.heap[b]? = w.heap[b]?) : Row w' b n F := by
  refine ⟨?_, fun j hj => (World.cell?_of_block (w := w) (a := ⟨b, j, none⟩) hb).trans (h.cell j hj), fun j => (World.frozen?_of_block (w := w) (a := ⟨b, j, none⟩) hb).trans (h.free j)⟩
  have := h.lt
  rw [Array.getElem?_eq_getElem this] at hb
  exact (Array.getElem?_eq_some_iff.1 hb).1

theorem Row.kept {S : Nat → Prop} {w w' : World} {b n : Nat} {F : Nat → Value} (h : Row w b n F) (k : Kept S w w') (hs : ¬ S b) : Row w' b n F := h.of_block (k.block b h.lt hs)

theorem Row.set {w : World} {b n : Nat} {F : Nat → Value} (h : Row w b n F) (j : Nat) (u : Value) : Row (w.setCell ⟨b, j, none⟩ u) b n (fun i => if i = j then u else F i) := by
  refine ⟨by simpa [World.setCell] using h.lt, fun i hi => ?_, fun i => ?_⟩
  · by_cases e : i = j
    · subst e
      rw [World.cell?_setCell_same' _ _ _ (by rw [h.cell i hi]; rfl)]; simp
    · rw [if_neg e, ← h.cell i hi]
      simp only [World.cell?, World.setCell, Array.getElem?_modify]
      rw [if_pos trivial]
      cases hh : w.heap[b]? with
      | none => rfl
      | some o =>
        cases o with
        | cells c t f =>
          simp only [Option.map_some, Option.isSome_none, Bool.false_eq_true, if_false]
          rw [Array.getElem?_setIfInBounds, if_neg (fun e' => e e'.symm)]
        | _ => rfl
  · rw [← h.free i]
    simp only [World.frozen?, World.setCell, Array.getElem?_modify]
    rw [if_pos trivial]
    cases hh : w.heap[b]? with
    | none => rfl
    | some o => cases o <;> rfl

theorem Row.congr {w : World} {b n : Nat} {F G : Nat → Value} (h : Row w b n F) (e : ∀ j, j < n → F j = G j) : Row w b n G := ⟨h.lt, fun j hj => by rw [← e j hj]; exact h.cell j hj, h.free⟩
theorem Row.less {w : World} {b n m : Nat} {F : Nat → Value} (h : Row w b n F) (e : m ≤ n) : Row w b m F := ⟨h.lt, fun j hj => h.cell j (by omega), h.free⟩

theorem Row.of_cells {w : World} {b : Nat} {c : Array Value} {t : TypeId} (h : w.heap[b]? = some (.cells c t (0, 0))) : Row w b c.size (fun j => c.getD j undef) := by
  refine ⟨lt_of_block h, fun j hj => ?_, fun j => by simp [World.frozen?, h]⟩
  simp only [World.cell?, h]
  simp [Array.getD, hj]

theorem Row.of_owns {w : World} {base : Nat} {e : TypeId} {size n cap g : Nat} {xs : List Value} (h : w.ownsRow base e size (.slice (some ⟨g, 0, none⟩) n cap) n xs) (hl : g < w.heap.size) : Row w g (n * size) (fun j => xs.getD j undef) := by
  refine ⟨hl, fun j hj => ?_, fun j => h.frozenAt j⟩
  rw [h.cellAt j hj]
  have : j < xs.length := by rw [h.1]; exact hj
  simp [List.getD, this]

theorem Row.new (w : World) (c : Array Value) (t : TypeId) : Row (w.alloc (.cells c t)) w.heap.size c.size (fun j => c.getD j undef) := Row.of_cells (heap_alloc_new w _)
end Go.Proofs.Ybulkdhek
