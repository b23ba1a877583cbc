import Derived.Test.YbulkdhfmRows
import Derived.WalkKit
import Derived.WalkSpells
import Derived.WalkLawsBesides
import Derived.Laws.LoneSync
import Derived.Laws.Externs
import Derived.Deep.QuietTactic
import Derived.BigQuiet
import Derived.Handy
import Derived.BigRegion
namespace Go.Proofs.Ybulkdhfm
open Go.RowKit
set_option linter.unusedVariables false

theorem frombits (n : Int) (w : World) : (callFunc 5 #[.int .u64 n]).run Yba.prog w = .ok (.value (.float .f64 n.toNat)) w := by
  rw [run_callFunc_extern Yba.func5 (by kernel_rfl) (by kernel_rfl) (by kernel_rfl) (show Extern.find Yba.f5 = some Extern.MathFloatBits.float64frombits by kernel_rfl)]; rfl
theorem tobits (b : Nat) (w : World) : (callFunc 8 #[.float .f64 b]).run Yba.prog w = .ok (.value (.int .u64 b)) w := by
  rw [run_callFunc_extern Yba.func8 (by kernel_rfl) (by kernel_rfl) (by kernel_rfl) (show Extern.find Yba.f8 = some Extern.MathFloatBits.float64bits by kernel_rfl)]; rfl
theorem aload {a : Addr} {x : Int} {w : World} (hc : w.cell? a = some (.int .u64 x)) : (callFunc 12 #[.pointer (some a)]).run Yba.prog w = .ok (.value (.int .u64 x)) w :=
  run_call_load Yba.func12 (by kernel_rfl) (by kernel_rfl) (by kernel_rfl) .u64 (by kernel_rfl) hc
theorem astore {a : Addr} {y : Int} {u : Value} {w : World} (hc : w.cell? a = some u) (hz : w.frozen? a = false) : (callFunc 10 #[.pointer (some a), .int .u64 y]).run Yba.prog w = .ok (.value (.tuple #[])) (w.setCell a (.int .u64 y)) :=
  run_call_store Yba.func10 (by kernel_rfl) (by kernel_rfl) (by kernel_rfl) (by kernel_rfl) hc hz

set_option maxHeartbeats 400000 in
theorem load_any (L o : Nat) (y : Int) (w : World) (hc : w.cell? ⟨L, o, none⟩ = some (.int .u64 y)) :
    Calls Yba.prog 9 #[.pointer (some ⟨L, o, none⟩)] w fun e w' => e = .returned (.int .u64 y) ∧ w' = w := by
  have h := aload hc
  go_enter Yba.func9, Yba.ntmps9
  go_wp2
  go_ret
  exact ⟨rfl, rfl⟩
set_option maxHeartbeats 400000 in
theorem store_any (L o : Nat) (y : Int) (u : Value) (w : World) (hc : w.cell? ⟨L, o, none⟩ = some u) (hz : w.frozen? ⟨L, o, none⟩ = false) :
    Calls Yba.prog 6 #[.pointer (some ⟨L, o, none⟩), .int .u64 y] w fun e w' => e = .returned (.tuple #[]) ∧ w' = w.setCell ⟨L, o, none⟩ (.int .u64 y) := by
  have h := astore (y := y) hc hz
  go_enter Yba.func6, Yba.ntmps6
  go_wp2
  go_end0
  exact ⟨rfl, rfl⟩

set_option maxHeartbeats 400000 in
theorem read_any (L Cb Pb : Nat) (k x m : Int) (w : World) (hk1 : 0 ≤ k) (hk2 : k ≤ 10) (h1 : w.cell? ⟨L, 1, none⟩ = some (.func (.func 4) #[] #[.pointer (some ⟨Cb, 0, none⟩), .pointer (some ⟨Pb, 0, none⟩)])) (h2 : w.cell? ⟨Cb, 0, none⟩ = some (.int .i64 k)) (h3 : w.frozen? ⟨Cb, 0, none⟩ = false)
    (h4 : w.cell? ⟨Pb, 0, none⟩ = some (.int .i64 x)) (hne : Cb ≠ Pb) (hm : (x ≤ 1000 ∧ m = x) ∨ (1000 < x ∧ m = 1000)) :
    Calls Yba.prog 11 #[.pointer (some ⟨L, 0, none⟩)] w fun e w' => e = .returned (.float .f64 (floatOfInt .f64 m)) ∧ w' = w.setCell ⟨Cb, 0, none⟩ (.int .i64 (k + 1)) := by
  have hne' : Pb ≠ Cb := fun e => hne e.symm
  rcases hm with ⟨hx, rfl⟩ | ⟨hx, rfl⟩
  · go_enter Yba.func11, Yba.ntmps11
    go_wp2
    go_ret
    exact ⟨rfl, rfl⟩
  · go_enter Yba.func11, Yba.ntmps11
    go_wp2
    go_ret
    exact ⟨rfl, rfl⟩

theorem set_other {w : World} {b i j : Nat} {u : Value} (h : i ≠ j) : (w.setCell ⟨b, i, none⟩ u).cell? ⟨b, j, none⟩ = w.cell? ⟨b, j, none⟩ := by
  simp only [World.cell?, World.setCell, Array.getElem?_modify]
  rw [if_pos trivial]
  cases hh : w.heap[b]? with
  | none => rfl
  | some o =>
    cases o with
    | cells c t f =>
      simp only [Option.map_some, Option.isSome_none, Bool.false_eq_true, if_false]
      rw [Array.getElem?_setIfInBounds, if_neg h]
    | _ => rfl

/-- The kneeLimit and the two captured variables, as they lie in memory. -/
structure Knee (w : World) (L Cb Pb : Nat) (F B W : Int) (M : Nat) (lim k x : Int) : Prop where
  c0 : w.cell? ⟨L, 0, none⟩ = some .nilFunc
  c1 : w.cell? ⟨L, 1, none⟩ = some (.func (.func 4) #[] #[.pointer (some ⟨Cb, 0, none⟩), .pointer (some ⟨Pb, 0, none⟩)])
  c4 : w.cell? ⟨L, 4, none⟩ = some (.int .i64 F)
  c5 : w.cell? ⟨L, 5, none⟩ = some (.int .i64 B)
  c6 : w.cell? ⟨L, 6, none⟩ = some (.int .i64 W)
  c7 : w.cell? ⟨L, 7, none⟩ = some (.float .f64 M)
  c8 : w.cell? ⟨L, 8, none⟩ = some (.int .u64 lim)
  cC : w.cell? ⟨Cb, 0, none⟩ = some (.int .i64 k)
  cP : w.cell? ⟨Pb, 0, none⟩ = some (.int .i64 x)
  fr : ∀ j, w.frozen? ⟨L, j, none⟩ = false
  frC : w.frozen? ⟨Cb, 0, none⟩ = false

theorem cell_other {w : World} {p : Addr} {u : Value} {b j : Nat} (hb : b ≠ p.block) : (w.setCell p u).cell? ⟨b, j, none⟩ = w.cell? ⟨b, j, none⟩ :=
  World.cell?_of_block (w := w) (a := ⟨b, j, none⟩) (Below.heap_setCell _ _ _ _ hb)
theorem frozen_set {w : World} {p a : Addr} {u : Value} : (w.setCell p u).frozen? a = w.frozen? a := by
  simp only [World.frozen?, World.setCell, Array.getElem?_modify]
  by_cases h : p.block = a.block
  · rw [if_pos h]
    cases hh : w.heap[a.block]? with
    | none => rfl
    | some o => cases o <;> rfl
  · rw [if_neg h]

section
variable {w : World} {L Cb Pb : Nat} {F B W : Int} {M : Nat} {lim k x : Int}
theorem Knee.set4 (h : Knee w L Cb Pb F B W M lim k x) (n1 : L ≠ Cb) (n2 : L ≠ Pb) (y : Int) : Knee (w.setCell ⟨L, 4, none⟩ (.int .i64 y)) L Cb Pb y B W M lim k x :=
  ⟨(set_other (by decide)).trans h.c0, (set_other (by decide)).trans h.c1, World.cell?_setCell_same' _ _ _ (by rw [h.c4]; rfl), (set_other (by decide)).trans h.c5, (set_other (by decide)).trans h.c6, (set_other (by decide)).trans h.c7, (set_other (by decide)).trans h.c8,
    (cell_other (fun e => n1 e.symm)).trans h.cC, (cell_other (fun e => n2 e.symm)).trans h.cP, fun j => frozen_set.trans (h.fr j), frozen_set.trans h.frC⟩
theorem Knee.set5 (h : Knee w L Cb Pb F B W M lim k x) (n1 : L ≠ Cb) (n2 : L ≠ Pb) (y : Int) : Knee (w.setCell ⟨L, 5, none⟩ (.int .i64 y)) L Cb Pb F y W M lim k x :=
  ⟨(set_other (by decide)).trans h.c0, (set_other (by decide)).trans h.c1, (set_other (by decide)).trans h.c4, World.cell?_setCell_same' _ _ _ (by rw [h.c5]; rfl), (set_other (by decide)).trans h.c6, (set_other (by decide)).trans h.c7, (set_other (by decide)).trans h.c8,
    (cell_other (fun e => n1 e.symm)).trans h.cC, (cell_other (fun e => n2 e.symm)).trans h.cP, fun j => frozen_set.trans (h.fr j), frozen_set.trans h.frC⟩
theorem Knee.set6 (h : Knee w L Cb Pb F B W M lim k x) (n1 : L ≠ Cb) (n2 : L ≠ Pb) (y : Int) : Knee (w.setCell ⟨L, 6, none⟩ (.int .i64 y)) L Cb Pb F B y M lim k x :=
  ⟨(set_other (by decide)).trans h.c0, (set_other (by decide)).trans h.c1, (set_other (by decide)).trans h.c4, (set_other (by decide)).trans h.c5, World.cell?_setCell_same' _ _ _ (by rw [h.c6]; rfl), (set_other (by decide)).trans h.c7, (set_other (by decide)).trans h.c8,
    (cell_other (fun e => n1 e.symm)).trans h.cC, (cell_other (fun e => n2 e.symm)).trans h.cP, fun j => frozen_set.trans (h.fr j), frozen_set.trans h.frC⟩
theorem Knee.set7 (h : Knee w L Cb Pb F B W M lim k x) (n1 : L ≠ Cb) (n2 : L ≠ Pb) (y : Nat) : Knee (w.setCell ⟨L, 7, none⟩ (.float .f64 y)) L Cb Pb F B W y lim k x :=
  ⟨(set_other (by decide)).trans h.c0, (set_other (by decide)).trans h.c1, (set_other (by decide)).trans h.c4, (set_other (by decide)).trans h.c5, (set_other (by decide)).trans h.c6, World.cell?_setCell_same' _ _ _ (by rw [h.c7]; rfl), (set_other (by decide)).trans h.c8,
    (cell_other (fun e => n1 e.symm)).trans h.cC, (cell_other (fun e => n2 e.symm)).trans h.cP, fun j => frozen_set.trans (h.fr j), frozen_set.trans h.frC⟩
theorem Knee.setC (h : Knee w L Cb Pb F B W M lim k x) (n1 : L ≠ Cb) (n3 : Cb ≠ Pb) (y : Int) : Knee (w.setCell ⟨Cb, 0, none⟩ (.int .i64 y)) L Cb Pb F B W M lim y x :=
  ⟨(cell_other n1).trans h.c0, (cell_other n1).trans h.c1, (cell_other n1).trans h.c4, (cell_other n1).trans h.c5, (cell_other n1).trans h.c6, (cell_other n1).trans h.c7, (cell_other n1).trans h.c8,
    World.cell?_setCell_same' _ _ _ (by rw [h.cC]; rfl), (cell_other (fun e => n3 e.symm)).trans h.cP, fun j => frozen_set.trans (h.fr j), frozen_set.trans h.frC⟩
theorem Knee.drew (h : Knee w L Cb Pb F B W M lim k x) : Knee w.drew L Cb Pb F B W M lim k x := ⟨h.c0, h.c1, h.c4, h.c5, h.c6, h.c7, h.c8, h.cC, h.cP, h.fr, h.frC⟩
theorem Knee.drewN (h : Knee w L Cb Pb F B W M lim k x) (n : Nat) : Knee (w.drewN n) L Cb Pb F B W M lim k x := ⟨h.c0, h.c1, h.c4, h.c5, h.c6, h.c7, h.c8, h.cC, h.cP, h.fr, h.frC⟩
end

/-- readMinLimit, over the kneeLimit as it lies. -/
theorem read_knee {w : World} {L Cb Pb Q : Nat} {F B W : Int} {M : Nat} {lim x m : Int} (h : Knee w L Cb Pb F B W M lim 0 x) (n1 : L ≠ Cb) (n3 : Cb ≠ Pb) (q2 : Q ≤ Cb) (hm : (x ≤ 1000 ∧ m = x) ∨ (1000 < x ∧ m = 1000)) :
    Calls Yba.prog 11 #[.pointer (some ⟨L, 0, none⟩)] w fun e w' => e = .returned (.float .f64 (floatOfInt .f64 m)) ∧ Knee w' L Cb Pb F B W M lim 1 x ∧ Below Q w w' :=
  (read_any L Cb Pb 0 x m w (by omega) (by omega) h.c1 h.cC h.frC h.cP n3 hm).mono fun e w' ⟨he, hw⟩ => ⟨he, by subst hw; exact h.setC n1 n3 _, by subst hw; exact (Below.refl _ _).setCell (p := ⟨Cb, 0, none⟩) q2 _⟩

set_option maxRecDepth 100000 in
set_option maxHeartbeats 1000000 in
theorem fast0 (L Cb Pb Q : Nat) (q1 : Q ≤ L) (q2 : Q ≤ Cb) (F B W R N lim x m : Int) (M : Nat) (w : World) (h : Knee w L Cb Pb F B W M lim 0 x) (n1 : L ≠ Cb) (n2 : L ≠ Pb) (n3 : Cb ≠ Pb) (hm : (x ≤ 1000 ∧ m = x) ∨ (1000 < x ∧ m = 1000))
    (hc : (F == 0) = true ∨ (F == 0) = false ∧ 10000000000 ≤ wrap64 (N - W)) :
    Calls Yba.prog 7 #[.pointer (some ⟨L, 0, none⟩), .int .i64 R, .int .i64 N] w fun e w' => e = .returned (.int .i64 R) ∧ Knee w' L Cb Pb R 0 N (floatOfInt .f64 m) lim 1 x ∧ Below Q w w' := by
  have H1 : Hid (Knee (((w.setCell ⟨L, 4, none⟩ (.int .i64 R)).setCell ⟨L, 5, none⟩ (.int .i64 0)).setCell ⟨L, 6, none⟩ (.int .i64 N)) L Cb Pb R 0 N M lim 0 x) := ((h.set4 n1 n2 R).set5 n1 n2 0).set6 n1 n2 N
  have H2 : Hid (Below Q w (((w.setCell ⟨L, 4, none⟩ (.int .i64 R)).setCell ⟨L, 5, none⟩ (.int .i64 0)).setCell ⟨L, 6, none⟩ (.int .i64 N))) := (((Below.refl _ _).setCell (p := ⟨L, 4, none⟩) q1 _).setCell (p := ⟨L, 5, none⟩) q1 _).setCell (p := ⟨L, 6, none⟩) q1 _
  obtain ⟨c0, c1, c4, c5, c6, c7, c8, cC, cP, fr, frC⟩ := h
  have HM : Hid ((x ≤ 1000 ∧ m = x) ∨ (1000 < x ∧ m = 1000)) := hm
  have hsf := fun (a : Addr) (b : Nat) (m : Mode) (w : World) => run_store Yba.prog w a (.float .f64 b) m rfl
  clear hm c0 c1 c7 c8 cC cP frC
  rcases hc with hc | ⟨hc, hc2⟩
  all_goals
    go_enter Yba.func7, Yba.ntmps7
    go_wp2_with fail
    refine (read_knee H1.out n1 n3 q2 HM.out).mono ?_
    rintro e w2 ⟨rfl, hk, hb⟩
    have H3 : Hid (Knee (w2.setCell ⟨L, 7, none⟩ (.float .f64 (floatOfInt .f64 m))) L Cb Pb R 0 N (floatOfInt .f64 m) lim 1 x ∧ Below Q w (w2.setCell ⟨L, 7, none⟩ (.float .f64 (floatOfInt .f64 m)))) := ⟨hk.set7 n1 n2 _, (H2.out.trans hb).setCell (p := ⟨L, 7, none⟩) q1 _⟩
    obtain ⟨d0, d1, d4, d5, d6, d7, d8, dC, dP, dr, drC⟩ := hk
    clear fr hb d0 d1 d8 dC dP drC H1 H2
    go_wp2
    go_ret
    exact ⟨rfl, H3.out⟩
end Go.Proofs.Ybulkdhfm
