import Derived.Test.YbulkdhekKept
namespace Go.Proofs.Ybulkdhek
open Go.RowKit

theorem info3 : (Yba.prog.info? 3).map (fun i => (i.zero, i.size, i.bytes)) = some (some (.int .i64 0), 1, 8) := by kernel_rfl

set_option maxHeartbeats 400000 in
theorem earlier_any (a : Int) (L R : Nat) (ha0 : 0 ≤ a) (ha1 : a ≤ 65536) (hLR : L ≠ R) (w : World) (hL : w.heap[L]? = some (.cells #[.slice none 0 0] 25 (0, 0))) (hR : w.heap[R]? = some (.cells #[.slice none 0 0] 38 (0, 0))) :
    Calls Yba.prog 5 #[.int .i64 a, .pointer (some ⟨L, 0, none⟩), .pointer (some ⟨R, 0, none⟩)] w fun e w' => ∃ g gr cap, e = .returned (.slice (some ⟨gr, 0, none⟩) 1 1) ∧
      w'.cell? ⟨L, 0, none⟩ = some (.slice (some ⟨g, 0, none⟩) 1 cap) ∧ w'.cell? ⟨g, 0, none⟩ = some (.int .i64 a) ∧
      w'.cell? ⟨R, 0, none⟩ = some (.slice (some ⟨gr, 0, none⟩) 1 1) ∧ w'.cell? ⟨gr, 0, none⟩ = some (.int .u64 (2000 + a)) ∧ Kept (fun k => k = L ∨ k = R) w w' := by
  obtain ⟨i0, hi, hz0, hz1, hz2⟩ := info_parts info3
  have hLc := cell_of_one hL
  have hLf := free_of_one hL
  have hLl := lt_of_block hL
  have hRl := lt_of_block hR
  go_enter Yba.func5, Yba.ntmps5
  go_wp2_with (at_builtin; refine wpList_append_own _ rfl _ _ 25 rfl w.heap.size 3 i0 (.int .i64 0) 1 8 Yba.underlying25 hi hz0 hz1 hz2 rfl (by decide) _ _ _ rfl (World.ownsRow_nil _ _ _ _) ⟨w.heap.size, 0, none⟩ 1 1 [.int .i64 a] rfl rfl ?c1 ?c2 ?c3 ?c4 ?c5 ?_)
  case c1 => exact cell_one_new _ _ _
  case c2 => intro u hu; simp at hu; subst hu; rfl
  case c3 => simp [maxLen]
  case c4 => omega
  case c5 => simp
  intro v' w1 hown hg _
  have hk1 : Kept (fun k => k = L ∨ k = R) w w1 := ((Kept.refl _ w).alloc _).grown hg (fun k h => by simp [Value.ownBlock] at h)
  rcases hown.2 with ⟨_, h⟩ | ⟨g, cap, cur, rfl, hgb, hgg, hcap, _, hcs, htake⟩
  · simp at h
  have hL1 : w1.heap[L]? = some (.cells #[.slice none 0 0] 25 (0, 0)) := by
    rw [hg.block L (by simp; omega) (by simp [Value.ownBlock]), Below.heap_alloc _ _ _ hLl]; exact hL
  have hR1 : w1.heap[R]? = some (.cells #[.slice none 0 0] 38 (0, 0)) := by
    rw [hg.block R (by simp; omega) (by simp [Value.ownBlock]), Below.heap_alloc _ _ _ hRl]; exact hR
  have hgl := lt_of_block hgg
  have hcg : cur[0]? = some (.int .i64 a) := by
    have : cur.toList[0]? = some (.int .i64 a) := by rw [← List.getElem?_take_of_lt (j := 1) (by omega)]; simp only [Nat.mul_one] at htake; rw [htake]; rfl
    simpa using this
  have hLc1 := cell_of_one hL1
  have hLf1 := free_of_one hL1
  have hRc1 := cell_of_one hR1
  have hRf1 := free_of_one hR1
  have hRL : R ≠ L := fun h => hLR h.symm
  have hRl1 := lt_of_block hR1
  have hLl1 := lt_of_block hL1
  clear hown hg htake hcs hL hR hLc hLf
  go_wp2
  go_ret
  have hgc : w1.cell? ⟨g, 0, none⟩ = some (.int .i64 a) := by simpa [World.cell?, hgg] using hcg
  have hgL : g ≠ L := by omega
  have hgR : g ≠ R := by omega
  refine ⟨g, w1.heap.size, cap, rfl, ?_, ?_, ?_, ?_, ?_⟩
  · simp [go_sem, *]
  · simp [go_sem, *]
  · simp [go_sem, *]
  · simp [go_sem, *]
  · exact ((hk1.setCell (fun _ => .inl rfl) _).setCell (fun _ => .inr rfl) _).alloc _
end Go.Proofs.Ybulkdhek
