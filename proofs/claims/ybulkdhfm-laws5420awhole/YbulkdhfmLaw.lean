import Derived.Test.YbulkdhfmFast
import Derived.Deep.DeepCutAuto
namespace Go.Proofs.Ybulkdhfm
open Go.RowKit
set_option linter.unusedVariables false

theorem knee_start (w : World) (a0 a1 a2 a4 a5 : Int) (n3 : Nat) :
    let W0 := ((w.alloc (.cells #[.int .i64 a5] 3)).alloc (.cells #[.int .i64 0] 3)).alloc (.cells #[.nilFunc, .func (.func 4) #[] #[.pointer (some ⟨w.heap.size + 1, 0, none⟩), .pointer (some ⟨w.heap.size, 0, none⟩)], .int .i32 0, .int .u32 0, .int .i64 a0, .int .i64 a1, .int .i64 a2, .float .f64 n3, .int .u64 0] 41)
    W0.cell? ⟨w.heap.size + 1 + 1, 8, none⟩ = some (.int .u64 0) ∧ W0.frozen? ⟨w.heap.size + 1 + 1, 8, none⟩ = false ∧
    Knee (W0.setCell ⟨w.heap.size + 1 + 1, 8, none⟩ (.int .u64 a4)) (w.heap.size + 1 + 1) (w.heap.size + 1) w.heap.size a0 a1 a2 n3 a4 0 a5 ∧ Below w.heap.size w (W0.setCell ⟨w.heap.size + 1 + 1, 8, none⟩ (.int .u64 a4)) := by
  intro W0
  refine ⟨by simp [W0, go_sem], by simp [W0, go_sem], ⟨?_, ?_, ?_, ?_, ?_, ?_, ?_, ?_, ?_, fun j => ?_, ?_⟩, ?_⟩
  all_goals first
    | (simp [W0, go_sem]; done)
    | exact ((((Below.refl _ _).alloc (Nat.le_refl _) _).alloc (by simp) _).alloc (by simp; omega) _).setCell (by simp; omega) _

set_option maxRecDepth 100000 in
set_option maxHeartbeats 4000000 in
theorem law_any (a0 a1 a2 a5 a6 a7 a8 : Int) (n3 : Nat) (a4 : Int) (b8 : 0 ≤ a8) (b8' : a8 ≤ 255) (w : World) (m : Int) (hm : (a5 ≤ 1000 ∧ m = a5) ∨ (1000 < a5 ∧ m = 1000)) :
    Calls Yba.prog 3 #[.int .i64 a0, .int .i64 a1, .int .i64 a2, .int .u64 n3, .int .u64 a4, .int .i64 a5, .int .i64 a6, .int .i64 a7, .int .u8 a8] w fun e w' => e = .returned (.bool true) ∧ Below w.heap.size w w' := by
  have HM : Hid ((a5 ≤ 1000 ∧ m = a5) ∨ (1000 < a5 ∧ m = 1000)) := hm
  have hfb := frombits
  have htb := tobits
  have hnil : ∀ w, (binOp .eql 28 .nilFunc .nilFunc).run Yba.prog w = .ok (.bool true) w := fun w => by kernel_rfl
  clear hm
  go_enter Yba.func3, Yba.ntmps3
  go_upto_region 5 with fail
  go_cut [23] from 37 to 46 (fun v w' => (∃ N, v = .int .i64 N) ∧ w.alloc (.cells #[.int .i64 a5] 3) = w')
  case first =>
    go_wp2
    go_meet
    case rel => exact ⟨⟨_, rfl⟩, rfl⟩
  case rest =>
    obtain ⟨⟨N, rfl⟩, rfl⟩ := hcut
    clear b8 b8'
    go_upto_region 8 with fail
    have hst := knee_start w a0 a1 a2 a4 a5 n3
    generalize ((w.alloc (.cells #[.int .i64 a5] 3)).alloc (.cells #[.int .i64 0] 3)).alloc (.cells #[.nilFunc, .func (.func 4) #[] #[.pointer (some ⟨w.heap.size + 1, 0, none⟩), .pointer (some ⟨w.heap.size, 0, none⟩)], .int .i32 0, .int .u32 0, .int .i64 a0, .int .i64 a1, .int .i64 a2, .float .f64 n3, .int .u64 0] 41) = W0 at hst ⊢
    obtain ⟨s1, s2, s3, s4⟩ := hst
    go_wp2_with fail
    refine (store_any _ _ _ _ _ s1 s2).mono ?_
    rintro e w1 ⟨rfl, rfl⟩
    have HK : Hid (Knee (W0.setCell ⟨w.heap.size + 1 + 1, 8, none⟩ (.int .u64 a4)) (w.heap.size + 1 + 1) (w.heap.size + 1) w.heap.size a0 a1 a2 n3 a4 0 a5) := s3
    have HB : Hid (Below w.heap.size w (W0.setCell ⟨w.heap.size + 1 + 1, 8, none⟩ (.int .u64 a4))) := s4
    generalize W0.setCell ⟨w.heap.size + 1 + 1, 8, none⟩ (.int .u64 a4) = W1 at HK HB ⊢
    clear s1 s2 s3 s4
    have n1 : w.heap.size + 1 + 1 ≠ w.heap.size + 1 := by omega
    have n2 : w.heap.size + 1 + 1 ≠ w.heap.size := by omega
    have n3' : w.heap.size + 1 ≠ w.heap.size := by omega
    by_cases k0 : (a0 == 0) = true ∨ (a0 == 0) = false ∧ 10000000000 ≤ wrap64 (N - a2)
    · go_wp2_with fail
      refine (fast0 _ _ _ w.heap.size (by omega) (by omega) a0 a1 a2 a6 N a4 a5 m n3 _ HK.out n1 n2 n3' HM.out k0).mono ?_
      rintro e w2 ⟨rfl, hk, hb⟩
      have HB2 : Hid (Below w.heap.size w w2) := HB.out.trans hb
      have hl := load_any (w.heap.size + 1 + 1) 8 a4 w2 hk.c8
      obtain ⟨d0, d1, d4, d5, d6, d7, d8, dC, dP, dr, drC⟩ := hk
      clear hb d1 dr drC
      rcases k0 with k0 | ⟨k0, k1⟩
      all_goals
        rcases HM.out with ⟨hx, hm⟩ | ⟨hx, hm⟩
        all_goals
          subst hm
          go_wp2_with (first | (go_at_call 9; refine hl.mono ?_; rintro e w' ⟨rfl, rfl⟩))
          go_ret
          exact ⟨rfl, HB2.out⟩
    · have hf0 : (a0 == 0) = false := by
        cases hq : (a0 == 0) with
        | false => rfl
        | true => exact absurd (.inl hq) k0
      have hl10 : ¬ 10000000000 ≤ wrap64 (N - a2) := fun hh => k0 (.inr ⟨hf0, hh⟩)
      have hfn : (a0 != 0) = true := by simpa using hf0
      clear k0
      by_cases k1 : 5000000000 ≤ wrap64 (N - a2)
      · have hz : ∃ z, (a6 ≤ a0 ∧ z = a6) ∨ (a0 < a6 ∧ z = a0) := by
          by_cases hq : a6 ≤ a0
          · exact ⟨_, .inl ⟨hq, rfl⟩⟩
          · exact ⟨_, .inr ⟨by omega, rfl⟩⟩
        obtain ⟨z, hz⟩ := hz
        have HZ : Hid ((a6 ≤ a0 ∧ z = a6) ∨ (a0 < a6 ∧ z = a0)) := hz
        clear hz
        go_wp2_with fail
        refine (fast1 _ _ _ w.heap.size (by omega) (by omega) a0 a1 a2 a6 N a4 a5 m n3 _ HK.out n1 n2 n3' HM.out hf0 (by omega) k1 z HZ.out).mono ?_
        rintro e w2 ⟨rfl, hk, hb⟩
        have HB2 : Hid (Below w.heap.size w w2) := HB.out.trans hb
        have hl := load_any (w.heap.size + 1 + 1) 8 a4 w2 hk.c8
        obtain ⟨d0, d1, d4, d5, d6, d7, d8, dC, dP, dr, drC⟩ := hk
        clear hb d1 dr drC
        rcases HM.out with ⟨hx, hm⟩ | ⟨hx, hm⟩
        all_goals
          have HM2 : Hid _ := HM.out
          rcases HZ.out with ⟨hz1, hz2⟩ | ⟨hz1, hz2⟩
          all_goals
            subst hm
            subst hz2
            clear HM HZ HM2 HK
            go_wp2_with (first | (go_at_call 9; refine hl.mono ?_; rintro e w' ⟨rfl, rfl⟩))
            go_ret
            exact ⟨rfl, HB2.out⟩
      · have hy : ∃ y, (a6 < a0 ∧ y = a6) ∨ (a0 ≤ a6 ∧ y = a0) := by
          by_cases hq : a6 < a0
          · exact ⟨_, .inl ⟨hq, rfl⟩⟩
          · exact ⟨_, .inr ⟨by omega, rfl⟩⟩
        obtain ⟨y, hy⟩ := hy
        have hz : ∃ z, ((a1 == 0) = true ∧ z = y) ∨ ((a1 == 0) = false ∧ ((a1 < y ∧ z = a1) ∨ (y ≤ a1 ∧ z = y))) := by
          cases hq : (a1 == 0) with
          | true => exact ⟨_, .inl ⟨rfl, rfl⟩⟩
          | false =>
            by_cases hq2 : a1 < y
            · exact ⟨_, .inr ⟨rfl, .inl ⟨hq2, rfl⟩⟩⟩
            · exact ⟨_, .inr ⟨rfl, .inr ⟨by omega, rfl⟩⟩⟩
        obtain ⟨z, hz⟩ := hz
        have HY : Hid ((a6 < a0 ∧ y = a6) ∨ (a0 ≤ a6 ∧ y = a0)) := hy
        have HZ : Hid (((a1 == 0) = true ∧ z = y) ∨ ((a1 == 0) = false ∧ ((a1 < y ∧ z = a1) ∨ (y ≤ a1 ∧ z = y)))) := hz
        clear hz hy
        go_wp2_with fail
        refine (fast2 _ _ _ w.heap.size (by omega) a0 a1 a2 a6 N a4 a5 n3 _ HK.out n1 n2 hf0 (by omega) (by omega) y HY.out z HZ.out).mono ?_
        rintro e w2 ⟨rfl, hk, hb⟩
        have HB2 : Hid (Below w.heap.size w w2) := HB.out.trans hb
        have hl := load_any (w.heap.size + 1 + 1) 8 a4 w2 hk.c8
        obtain ⟨d0, d1, d4, d5, d6, d7, d8, dC, dP, dr, drC⟩ := hk
        clear hb d1 dr drC
        rcases HM.out with ⟨hx, hm⟩ | ⟨hx, hm⟩
        all_goals
          clear HM HK
          subst hm
          rcases HY.out with ⟨hy1, hy2⟩ | ⟨hy1, hy2⟩
          all_goals
            rcases HZ.out with ⟨hz1, hz2⟩ | ⟨hz1, ⟨hz3, hz2⟩ | ⟨hz3, hz2⟩⟩
            all_goals
              have hz4 : (a1 != 0) = !(a1 == 0) := rfl
              rw [hz1] at hz4
              clear HY HZ
              subst hz2
              subst hy2
              go_wp2_with (first | (go_at_call 9; refine hl.mono ?_; rintro e w' ⟨rfl, rfl⟩))
              go_ret
              exact ⟨rfl, HB2.out⟩
end Go.Proofs.Ybulkdhfm
