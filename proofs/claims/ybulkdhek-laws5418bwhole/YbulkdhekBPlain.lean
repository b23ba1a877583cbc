/- The plain mathematics of LawS5418BWhole: the positions of the events of one process. -/
namespace Go.Proofs.Ybulkdhek

/-- The positions below k whose process is p, in order. -/
def pos (f : Nat → Nat) (p : Nat) : Nat → List Nat
  | 0 => []
  | k + 1 => if f k = p then pos f p k ++ [k] else pos f p k

theorem pos_hit {f : Nat → Nat} {p k : Nat} (h : f k = p) : pos f p (k + 1) = pos f p k ++ [k] := by simp [pos, h]
theorem pos_miss {f : Nat → Nat} {p k : Nat} (h : f k ≠ p) : pos f p (k + 1) = pos f p k := by simp [pos, h]

theorem pos_len (f : Nat → Nat) (p : Nat) : ∀ k, (pos f p k).length ≤ k
  | 0 => by simp [pos]
  | k + 1 => by
    have := pos_len f p k
    by_cases h : f k = p
    · rw [pos_hit h]; simp; omega
    · rw [pos_miss h]; omega

theorem pos_mem {f : Nat → Nat} {p : Nat} : ∀ {k j : Nat}, j ∈ pos f p k → f j = p
  | 0, j, h => by simp [pos] at h
  | k + 1, j, h => by
    by_cases hk : f k = p
    · rw [pos_hit hk] at h
      rcases List.mem_append.1 h with h | h
      · exact pos_mem h
      · simp at h; subst h; exact hk
    · rw [pos_miss hk] at h; exact pos_mem h

theorem pos_prefix (f : Nat → Nat) (p k : Nat) : ∀ d, ∃ r, pos f p (k + d) = pos f p k ++ r
  | 0 => ⟨[], by simp⟩
  | d + 1 => by
    obtain ⟨r, hr⟩ := pos_prefix f p k d
    by_cases h : f (k + d) = p
    · exact ⟨r ++ [k + d], by rw [← Nat.add_assoc, pos_hit h, hr, List.append_assoc]⟩
    · exact ⟨r, by rw [← Nat.add_assoc, pos_miss h, hr]⟩

theorem pos_same (f : Nat → Nat) (p k : Nat) : ∀ d, (∀ j, k ≤ j → j < k + d → f j ≠ p) → pos f p (k + d) = pos f p k
  | 0, _ => rfl
  | d + 1, h => by
    rw [← Nat.add_assoc, pos_miss (h (k + d) (by omega) (by omega))]
    exact pos_same f p k d (fun j h1 h2 => h j h1 (by omega))

/-- What 'next' is: the next event of s's process, or -1. -/
def NextIs (f : Nat → Nat) (n s : Nat) (nx : Int) : Prop :=
  (nx = -1 ∧ ∀ j, s < j → j < n → f j ≠ f s) ∨ ∃ j : Nat, nx = (j : Int) ∧ s < j ∧ j < n ∧ f j = f s ∧ ∀ i, s < i → i < j → f i ≠ f s

theorem next_first (f : Nat → Nat) (s : Nat) : ∀ d, (∀ j, s < j → j < s + 1 + d → f j ≠ f s) ∨ ∃ j, s < j ∧ j < s + 1 + d ∧ f j = f s ∧ ∀ i, s < i → i < j → f i ≠ f s
  | 0 => .inl (fun j h1 h2 => by omega)
  | d + 1 => by
    rcases next_first f s d with h | ⟨j, h1, h2, h3, h4⟩
    · by_cases hd : f (s + 1 + d) = f s
      · exact .inr ⟨s + 1 + d, by omega, by omega, hd, fun i a b => h i a (by omega)⟩
      · refine .inl (fun j a b => ?_)
        by_cases e : j = s + 1 + d
        · subst e; exact hd
        · exact h j a (by omega)
    · exact .inr ⟨j, h1, by omega, h3, h4⟩

theorem next_is (f : Nat → Nat) (n s : Nat) (h : s < n) : ∃ nx, NextIs f n s nx := by
  rcases next_first f s (n - s - 1) with g | ⟨j, h1, h2, h3, h4⟩
  · exact ⟨-1, .inl ⟨rfl, fun j a b => g j a (by omega)⟩⟩
  · exact ⟨j, .inr ⟨j, rfl, h1, by omega, h3, h4⟩⟩

/-- No next: the event's index is the number of its process's events. -/
theorem idx_last (f : Nat → Nat) (n s : Nat) (h : s < n) (hn : ∀ j, s < j → j < n → f j ≠ f s) : (pos f (f s) s).length + 1 = (pos f (f s) n).length := by
  have e : pos f (f s) n = pos f (f s) (s + 1) := by
    have := pos_same f (f s) (s + 1) (n - s - 1) (fun j a b => hn j (by omega) (by omega))
    rwa [show s + 1 + (n - s - 1) = n by omega] at this
  rw [e, pos_hit rfl]; simp

/-- A next one: it stands at the event's index. -/
theorem idx_next (f : Nat → Nat) (n s j : Nat) (h1 : s < j) (h2 : j < n) (h3 : f j = f s) (h4 : ∀ i, s < i → i < j → f i ≠ f s) :
    (pos f (f s) s).length + 1 < (pos f (f s) n).length ∧ (pos f (f s) n)[(pos f (f s) s).length + 1]? = some j := by
  have e : pos f (f s) j = pos f (f s) (s + 1) := by
    have := pos_same f (f s) (s + 1) (j - s - 1) (fun i a b => h4 i (by omega) (by omega))
    rwa [show s + 1 + (j - s - 1) = j by omega] at this
  have e2 : pos f (f s) (j + 1) = pos f (f s) s ++ [s] ++ [j] := by rw [pos_hit h3, e, pos_hit rfl]
  obtain ⟨r, hr⟩ := pos_prefix f (f s) (j + 1) (n - j - 1)
  rw [show j + 1 + (n - j - 1) = n by omega, e2] at hr
  rw [hr]
  refine ⟨by simp, ?_⟩
  simp

theorem idx_le (f : Nat → Nat) (n s : Nat) (h : s < n) : (pos f (f s) s).length + 1 ≤ (pos f (f s) n).length := by
  obtain ⟨r, hr⟩ := pos_prefix f (f s) (s + 1) (n - s - 1)
  rw [show s + 1 + (n - s - 1) = n by omega, pos_hit rfl] at hr
  rw [hr]; simp

theorem next_hit {f : Nat → Nat} {n s j : Nat} {nx : Int} (h : NextIs f n s nx) (h1 : s < j) (h2 : j < n) (h3 : f j = f s) (h4 : ∀ i, s < i → i < j → f i ≠ f s) : nx = (j : Int) := by
  rcases h with ⟨_, h⟩ | ⟨i, rfl, i1, i2, i3, i4⟩
  · exact absurd h3 (h j h1 h2)
  · rcases Nat.lt_trichotomy i j with e | e | e
    · exact absurd i3 (h4 i i1 e)
    · rw [e]
    · exact absurd h3 (i4 j h1 e)
theorem next_none {f : Nat → Nat} {n s : Nat} {nx : Int} (h : NextIs f n s nx) (h4 : ∀ i, s < i → i < n → f i ≠ f s) : nx = -1 := by
  rcases h with ⟨h, _⟩ | ⟨i, rfl, i1, i2, i3, i4⟩
  · exact h
  · exact absurd i3 (h4 i i1 i2)
end Go.Proofs.Ybulkdhek
