import Derived.Test.YbulkdheyPlain
namespace Go.Proofs.Ybulkdhey
open Go.RowKit
set_option linter.unusedVariables false

set_option maxRecDepth 100000 in
set_option maxHeartbeats 1000000 in
theorem law_any (a0 a1 a2 a3 a4 a5 a6 a7 : Int) (w : World) (b0 : 0 ≤ a0) (b0' : a0 ≤ 18446744073709551615) :
    Calls Yba.prog 3 #[.int .u64 a0, .int .u64 a1, .int .u64 a2, .int .u8 a3, .int .u64 a4, .int .u64 a5, .int .u64 a6, .int .u64 a7] w fun e w' => e = .returned (.bool true) ∧ Below w.heap.size w w' := by
  obtain ⟨zc, hz, hzs, z5, z35, z36, z40, z51⟩ := zero49
  go_enter Yba.func3, Yba.ntmps3
  go_wp2_with fail
  refine (mret_any w.heap.size a0 a1 (.int .u64 a2) (.int .u8 a3) _ (by simp [go_sem, hzs]) (by simp [go_sem, hzs]) (by simp [go_sem, hzs]) (by simp [go_sem, hzs]) (by simp [go_sem]) (by simp [go_sem]) (by simp [go_sem])).mono ?_
  rintro e w' ⟨rfl, c35, c33, c32, hoth, hbel⟩
  have c40 : w'.cell? ⟨w.heap.size, 40, none⟩ = some (.int .u64 a1) := by rw [hoth 40 (by decide) (by decide) (by decide)]; simp [go_sem, hzs]
  have c36 : w'.cell? ⟨w.heap.size, 36, none⟩ = some (.int .u64 a4) := by rw [hoth 36 (by decide) (by decide) (by decide)]; simp [go_sem, hzs]
  have c51 : w'.cell? ⟨w.heap.size, 51, none⟩ = some (.int .u64 a5) := by rw [hoth 51 (by decide) (by decide) (by decide)]; simp [go_sem, hzs]
  have c5 : w'.cell? ⟨w.heap.size, 5, none⟩ = some (.int .u64 a6) := by rw [hoth 5 (by decide) (by decide) (by decide)]; simp [go_sem, hzs]
  have c34 : w'.cell? ⟨w.heap.size, 34, none⟩ = some (.int .u64 a7) := by rw [hoth 34 (by decide) (by decide) (by decide)]; simp [go_sem, hzs]
  have HB : Hid (Below w.heap.size w w') := ((Below.refl _ _).alloc (Nat.le_refl _) _).trans hbel
  clear hoth hbel hz hzs z5 z35 z36 z40 z51
  obtain ⟨n, rfl⟩ := Int.eq_ofNat_of_zero_le b0
  have hn : n < 18446744073709551616 := by omega
  have hp : mpp (n : Int) = bits .and .u64 ((n : Int) / 2048) 3 % 256 := mppEq n hn
  cases t1 : (bits .and .u64 ((n : Int) / 128) 1 == 1) with
  | true =>
    cases t2 : (bits .and .u64 ((n : Int) / 2048) 3 % 256 != 3) with
    | true =>
      have hm := mst_tt n hn t1 t2
      go_wp2
      go_ret
      exact ⟨rfl, HB.out⟩
    | false =>
      have hm := mst_tf n hn t1 t2
      go_wp2
      go_ret
      exact ⟨rfl, HB.out⟩
  | false =>
    cases t2 : (bits .and .u64 ((n : Int) / 2048) 3 % 256 != 3) with
    | true =>
      have hm := mst_ft n hn t1 t2
      go_wp2
      go_ret
      exact ⟨rfl, HB.out⟩
    | false =>
      have hm := mst_ff n hn t1 t2
      go_wp2
      go_ret
      exact ⟨rfl, HB.out⟩
end Go.Proofs.Ybulkdhey
