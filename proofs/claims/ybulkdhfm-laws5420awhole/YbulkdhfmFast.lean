import Derived.Test.YbulkdhfmWalk
import Derived.Deep.RegionHeld3
import Derived.Deep.CutBlock
namespace Go.Proofs.Ybulkdhfm
open Go.RowKit
set_option linter.unusedVariables false

set_option maxRecDepth 100000 in
set_option maxHeartbeats 2000000 in
theorem fast1 (L Cb Pb Q : Nat) (q1 : Q ≤ L) (q2 : Q ≤ Cb) (F B W R N lim x m : Int) (M : Nat) (w : World) (h : Knee w L Cb Pb F B W M lim 0 x) (n1 : L ≠ Cb) (n2 : L ≠ Pb) (n3 : Cb ≠ Pb) (hm : (x ≤ 1000 ∧ m = x) ∨ (1000 < x ∧ m = 1000))
    (hc : (F == 0) = false) (hc1 : ¬ 10000000000 ≤ wrap64 (N - W)) (hc2 : 5000000000 ≤ wrap64 (N - W)) (z : Int) (hz : (R ≤ F ∧ z = R) ∨ (F < R ∧ z = F)) :
    Calls Yba.prog 7 #[.pointer (some ⟨L, 0, none⟩), .int .i64 R, .int .i64 N] w fun e w' => e = .returned (.int .i64 z) ∧ Knee w' L Cb Pb R F (wrap64 (W + 5000000000)) (floatOfInt .f64 m) lim 1 x ∧ Below Q w w' := by
  have H1 : Hid (Knee (((w.setCell ⟨L, 4, none⟩ (.int .i64 R)).setCell ⟨L, 5, none⟩ (.int .i64 F)).setCell ⟨L, 6, none⟩ (.int .i64 (wrap64 (W + 5000000000)))).drew L Cb Pb R F (wrap64 (W + 5000000000)) M lim 0 x) := (((h.set4 n1 n2 R).set5 n1 n2 F).set6 n1 n2 _).drew
  have H2 : Hid (Below Q w (((w.setCell ⟨L, 4, none⟩ (.int .i64 R)).setCell ⟨L, 5, none⟩ (.int .i64 F)).setCell ⟨L, 6, none⟩ (.int .i64 (wrap64 (W + 5000000000)))).drew) := ((((Below.refl _ _).setCell (p := ⟨L, 4, none⟩) q1 _).setCell (p := ⟨L, 5, none⟩) q1 _).setCell (p := ⟨L, 6, none⟩) q1 _).drew
  obtain ⟨c0, c1, c4, c5, c6, c7, c8, cC, cP, fr, frC⟩ := h
  have HM : Hid ((x ≤ 1000 ∧ m = x) ∨ (1000 < x ∧ m = 1000)) := hm
  have HZ : Hid ((R ≤ F ∧ z = R) ∨ (F < R ∧ z = F)) := hz
  have hsf := fun (a : Addr) (b : Nat) (m : Mode) (w : World) => run_store Yba.prog w a (.float .f64 b) m rfl
  clear hm hz c0 c1 c7 c8 cC cP frC
  go_enter Yba.func7, Yba.ntmps7
  go_upto_region 7 with fail
  go_region
  go_wp2_with fail
  refine (read_knee H1.out n1 n3 q2 HM.out).mono ?_
  rintro e w2 ⟨rfl, hk, hb⟩
  have H3 : Hid (Knee (w2.setCell ⟨L, 7, none⟩ (.float .f64 (floatOfInt .f64 m))) L Cb Pb R F (wrap64 (W + 5000000000)) (floatOfInt .f64 m) lim 1 x ∧ Below Q w (w2.setCell ⟨L, 7, none⟩ (.float .f64 (floatOfInt .f64 m)))) := ⟨hk.set7 n1 n2 _, (H2.out.trans hb).setCell (p := ⟨L, 7, none⟩) q1 _⟩
  obtain ⟨d0, d1, d4, d5, d6, d7, d8, dC, dP, dr, drC⟩ := hk
  clear fr hb d0 d1 d8 dC dP drC H1 H2 c4 c5 c6 d6
  rcases HZ.out with ⟨hlt, hz⟩ | ⟨hlt, hz⟩
  all_goals
    have HZ2 := hz
    subst HZ2
    go_wp2
    go_quiet (fail)
    go_wp2
    go_ret
    exact ⟨rfl, H3.out.1.drewN _, ⟨H3.out.2.os, H3.out.2.tape, H3.out.2.output, H3.out.2.size, H3.out.2.block⟩⟩

set_option maxRecDepth 100000 in
set_option maxHeartbeats 2000000 in
theorem fast2 (L Cb Pb Q : Nat) (q1 : Q ≤ L) (F B W R N lim x : Int) (M : Nat) (w : World) (h : Knee w L Cb Pb F B W M lim 0 x) (n1 : L ≠ Cb) (n2 : L ≠ Pb)
    (hc : (F == 0) = false) (hc1 : ¬ 10000000000 ≤ wrap64 (N - W)) (hc2 : ¬ 5000000000 ≤ wrap64 (N - W)) (y : Int) (hy : (R < F ∧ y = R) ∨ (F ≤ R ∧ y = F)) (z : Int) (hz : ((B == 0) = true ∧ z = y) ∨ ((B == 0) = false ∧ ((B < y ∧ z = B) ∨ (y ≤ B ∧ z = y)))) :
    Calls Yba.prog 7 #[.pointer (some ⟨L, 0, none⟩), .int .i64 R, .int .i64 N] w fun e w' => e = .returned (.int .i64 z) ∧ Knee w' L Cb Pb y B W M lim 0 x ∧ Below Q w w' := by
  have H1 : Hid (Knee (w.setCell ⟨L, 4, none⟩ (.int .i64 y)) L Cb Pb y B W M lim 0 x) := h.set4 n1 n2 y
  have H2 : Hid (Below Q w (w.setCell ⟨L, 4, none⟩ (.int .i64 y))) := (Below.refl _ _).setCell (p := ⟨L, 4, none⟩) q1 _
  obtain ⟨c0, c1, c4, c5, c6, c7, c8, cC, cP, fr, frC⟩ := h
  clear c0 c1 c7 c8 cC cP frC
  rcases hy with ⟨hlt, hy⟩ | ⟨hlt, hy⟩
  all_goals
    subst hy
    rcases hz with ⟨hb, hz⟩ | ⟨hb, ⟨hl2, hz⟩ | ⟨hl2, hz⟩⟩
    all_goals subst hz
    · go_enter Yba.func7, Yba.ntmps7
      go_wp2
      go_ret
      exact ⟨rfl, H1.out, H2.out⟩
    all_goals
      go_enter Yba.func7, Yba.ntmps7
      go_wp2
      go_quiet (fail)
      go_wp2
      go_ret
      exact ⟨rfl, H1.out.drewN _, ⟨H2.out.os, H2.out.tape, H2.out.output, H2.out.size, H2.out.block⟩⟩
end Go.Proofs.Ybulkdhfm
