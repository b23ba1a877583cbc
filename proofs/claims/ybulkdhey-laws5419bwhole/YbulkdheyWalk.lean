import Derived.Test.YbulkdheyRows
import Derived.WalkKit
import Derived.WalkSpells
import Derived.WalkLawsBesides
import Derived.Laws.Bits64
import Derived.Handy
namespace Go.Proofs.Ybulkdhey
open Go.RowKit
set_option linter.unusedVariables false

/-- Of the zero Hart: its cells' number, and what the cells hold that the law names. -/
def looks (v : Value) : Nat × Option Value × Option Value × Option Value × Option Value × Option Value × Bool :=
  match v with
  | .agg a => (a.size, a[5]?, a[35]?, a[36]?, a[40]?, a[51]?, true)
  | _ => (0, none, none, none, none, none, false)

theorem zeroLooks : ((Yba.prog.info? 49).bind (·.zero)).map looks = some (1137, some (.int .u64 0), some (.int .u64 0), some (.int .u64 0), some (.int .u64 0), some (.int .u64 0), true) := by kernel_rfl

theorem zero49 : ∃ zc : Array Value, (∀ w, (zeroValue 49).run Yba.prog w = .ok (.agg zc) w) ∧ zc.size = 1137 ∧ zc[5]? = some (.int .u64 0) ∧ zc[35]? = some (.int .u64 0) ∧ zc[36]? = some (.int .u64 0) ∧ zc[40]? = some (.int .u64 0) ∧ zc[51]? = some (.int .u64 0) := by
  have h := zeroLooks
  cases hi : Yba.prog.info? 49 with
  | none => rw [hi] at h; simp at h
  | some i =>
    rw [hi] at h
    cases hz : i.zero with
    | none => simp [hz] at h
    | some v =>
      cases v with
      | agg a =>
        simp [hz, looks] at h
        exact ⟨a, fun w => by simp [zeroValue, typeInfo, hi, hz], h.1, h.2.1, h.2.2.1, h.2.2.2.1, h.2.2.2.2.1, h.2.2.2.2.2⟩
      | _ => simp [hz, looks] at h

def mpp (a : Int) : Int := bits .and .u64 a 6144 / 2048 % 256
def mst (a : Int) : Int :=
  if (mpp a != 3) = true then bits .andNot .u64 (bits .or .u64 (bits .or .u64 (bits .andNot .u64 a 6152) (if (bits .and .u64 a 128 != 0) = true then 8 else 0)) 128) 131072
  else bits .or .u64 (bits .or .u64 (bits .andNot .u64 a 6152) (if (bits .and .u64 a 128 != 0) = true then 8 else 0)) 128

theorem set_other {w : World} {b i j : Nat} {u : Value} (h : i ≠ j) : (w.setCell ⟨b, i, none⟩ u).cell? ⟨b, j, none⟩ = w.cell? ⟨b, j, none⟩ := by
  simp only [World.cell?, World.setCell, Array.getElem?_modify]
  rw [if_pos trivial]
  cases hh : w.heap[b]? with
  | none => rfl
  | some o =>
    cases o with
    | cells c t f =>
      simp only [Option.map_some, Option.isSome_none, Bool.false_eq_true, if_false]
      rw [Array.getElem?_setIfInBounds, if_neg h]
    | _ => rfl

/-- What the three stores leave. -/
def Fin (B : Nat) (W w' : World) (x y z : Value) : Prop :=
  w'.cell? ⟨B, 35, none⟩ = some x ∧ w'.cell? ⟨B, 33, none⟩ = some y ∧ w'.cell? ⟨B, 32, none⟩ = some z ∧ (∀ j, j ≠ 35 → j ≠ 33 → j ≠ 32 → w'.cell? ⟨B, j, none⟩ = W.cell? ⟨B, j, none⟩) ∧ Below B W w'

theorem fin1 {B : Nat} {W : World} {u35 u33 u32 : Value} (c35 : W.cell? ⟨B, 35, none⟩ = some u35) (c33 : W.cell? ⟨B, 33, none⟩ = some u33) (c32 : W.cell? ⟨B, 32, none⟩ = some u32) (x y z : Value) :
    Fin B W (((W.setCell ⟨B, 35, none⟩ x).setCell ⟨B, 33, none⟩ y).setCell ⟨B, 32, none⟩ z) x y z := by
  refine ⟨?_, ?_, ?_, fun j h1 h2 h3 => ?_, (((Below.refl _ _).setCell (Nat.le_refl B) _).setCell (Nat.le_refl B) _).setCell (Nat.le_refl B) _⟩
  · rw [set_other (by decide), set_other (by decide)]; exact World.cell?_setCell_same' _ _ _ (by rw [c35]; rfl)
  · rw [set_other (by decide)]; exact World.cell?_setCell_same' _ _ _ (by rw [set_other (by decide), c33]; rfl)
  · exact World.cell?_setCell_same' _ _ _ (by rw [set_other (by decide), set_other (by decide), c32]; rfl)
  · rw [set_other (fun e => h3 e.symm), set_other (fun e => h2 e.symm), set_other (fun e => h1 e.symm)]
theorem fin2 {B : Nat} {W : World} {u35 u33 u32 : Value} (c35 : W.cell? ⟨B, 35, none⟩ = some u35) (c33 : W.cell? ⟨B, 33, none⟩ = some u33) (c32 : W.cell? ⟨B, 32, none⟩ = some u32) (x0 x y z : Value) :
    Fin B W ((((W.setCell ⟨B, 35, none⟩ x0).setCell ⟨B, 35, none⟩ x).setCell ⟨B, 33, none⟩ y).setCell ⟨B, 32, none⟩ z) x y z := by
  obtain ⟨h1, h2, h3, h4, h5⟩ := fin1 (W := W.setCell ⟨B, 35, none⟩ x0) (B := B) (World.cell?_setCell_same' _ _ _ (by rw [c35]; rfl)) ((set_other (by decide)).trans c33) ((set_other (by decide)).trans c32) x y z
  exact ⟨h1, h2, h3, fun j j1 j2 j3 => (h4 j j1 j2 j3).trans (set_other (fun e => j1 e.symm)), ((Below.refl _ _).setCell (Nat.le_refl B) _).trans h5⟩

set_option maxHeartbeats 1000000 in
theorem mret_any (B : Nat) (a0 a1 : Int) (v32 v33 : Value) (W : World) (c35 : W.cell? ⟨B, 35, none⟩ = some (.int .u64 a0)) (c40 : W.cell? ⟨B, 40, none⟩ = some (.int .u64 a1)) (c33 : W.cell? ⟨B, 33, none⟩ = some v33) (c32 : W.cell? ⟨B, 32, none⟩ = some v32)
    (f35 : W.frozen? ⟨B, 35, none⟩ = false) (f33 : W.frozen? ⟨B, 33, none⟩ = false) (f32 : W.frozen? ⟨B, 32, none⟩ = false) :
    Calls Yba.prog 4 #[.pointer (some ⟨B, 0, none⟩)] W fun e w' => e = .returned (.tuple #[]) ∧ w'.cell? ⟨B, 35, none⟩ = some (.int .u64 (mst a0)) ∧ w'.cell? ⟨B, 33, none⟩ = some (.int .u8 (mpp a0)) ∧ w'.cell? ⟨B, 32, none⟩ = some (.int .u64 a1) ∧
      (∀ j, j ≠ 35 → j ≠ 33 → j ≠ 32 → w'.cell? ⟨B, j, none⟩ = W.cell? ⟨B, j, none⟩) ∧ Below B W w' := by
  have HW : Hid (∀ x y z, Fin B W (((W.setCell ⟨B, 35, none⟩ x).setCell ⟨B, 33, none⟩ y).setCell ⟨B, 32, none⟩ z) x y z) := fun x y z => fin1 c35 c33 c32 x y z
  have HW2 : Hid (∀ x0 x y z, Fin B W ((((W.setCell ⟨B, 35, none⟩ x0).setCell ⟨B, 35, none⟩ x).setCell ⟨B, 33, none⟩ y).setCell ⟨B, 32, none⟩ z) x y z) := fun x0 x y z => fin2 c35 c33 c32 x0 x y z
  by_cases t1 : (bits BinOp.and IntKind.u64 a0 128 != 0) = true <;> by_cases t2 : (bits BinOp.and IntKind.u64 a0 6144 / 2048 % 256 != 3) = true
  all_goals try simp only [Bool.not_eq_true] at t1
  all_goals try simp only [Bool.not_eq_true] at t2
  all_goals go_enter Yba.func4, Yba.ntmps4
  all_goals go_wp2
  all_goals go_end0
  · have e : mst a0 = bits .andNot .u64 (bits .or .u64 (bits .or .u64 (bits .andNot .u64 a0 6152) 8) 128) 131072 := by unfold mst mpp; rw [if_pos t2, if_pos t1]
    rw [e]; exact ⟨rfl, HW2.out _ _ _ _⟩
  · have e : mst a0 = bits .or .u64 (bits .or .u64 (bits .andNot .u64 a0 6152) 8) 128 := by unfold mst mpp; rw [if_neg (by rw [t2]; simp), if_pos t1]
    rw [e]; exact ⟨rfl, HW.out _ _ _⟩
  · have e : mst a0 = bits .andNot .u64 (bits .or .u64 (bits .or .u64 (bits .andNot .u64 a0 6152) 0) 128) 131072 := by unfold mst mpp; rw [if_pos t2, if_neg (by rw [t1]; simp)]
    rw [e]; exact ⟨rfl, HW2.out _ _ _ _⟩
  · have e : mst a0 = bits .or .u64 (bits .or .u64 (bits .andNot .u64 a0 6152) 0) 128 := by unfold mst mpp; rw [if_neg (by rw [t2]; simp), if_neg (by rw [t1]; simp)]
    rw [e]; exact ⟨rfl, HW.out _ _ _⟩
end Go.Proofs.Ybulkdhey
