/- The plain mathematics of LawS5418CWhole: the cheapest level. r: is the level refused; c: its cost. No Go in sight. -/
namespace Go.Proofs.Ybulkdhek

/-- The best level behind k rounds of cheapest, from h - 1 down. -/
def bst (r : Int → Bool) (c : Int → Int) (h : Int) : Nat → Int
  | 0 => h
  | k + 1 => if !r (h - 1 - k) && decide (c (h - 1 - k) < c (bst r c h k)) then h - 1 - k else bst r c h k

/-- How many of the first k levels from h - 1 down are not refused. -/
def cnt (r : Int → Bool) (h : Int) : Nat → Nat
  | 0 => 0
  | k + 1 => cnt r h k + if r (h - 1 - k) then 0 else 1

/-- The same, from lo up. -/
def cntUp (r : Int → Bool) (lo : Int) : Nat → Nat
  | 0 => 0
  | k + 1 => cntUp r lo k + if r (lo + k) then 0 else 1

theorem cnt_le (r : Int → Bool) (h : Int) : ∀ k, cnt r h k ≤ k
  | 0 => Nat.le_refl _
  | k + 1 => by have := cnt_le r h k; unfold cnt; split <;> omega
theorem cntUp_le (r : Int → Bool) (lo : Int) : ∀ k, cntUp r lo k ≤ k
  | 0 => Nat.le_refl _
  | k + 1 => by have := cntUp_le r lo k; unfold cntUp; split <;> omega

theorem cntUp_front (r : Int → Bool) : ∀ (k : Nat) (lo : Int), cntUp r lo (k + 1) = cntUp r (lo + 1) k + if r lo then 0 else 1
  | 0, lo => by simp [cntUp]
  | k + 1, lo => by
    rw [cntUp, cntUp_front r k lo, cntUp]
    have e : lo + ((k + 1 : Nat) : Int) = lo + 1 + (k : Int) := by omega
    rw [e]; omega

theorem cnt_eq (r : Int → Bool) (h : Int) : ∀ k : Nat, cnt r h k = cntUp r (h - k) k
  | 0 => rfl
  | k + 1 => by
    rw [cntUp_front, cnt, cnt_eq r h k]
    have e : h - ((k + 1 : Nat) : Int) + 1 = h - (k : Int) := by omega
    have e2 : h - ((k + 1 : Nat) : Int) = h - 1 - (k : Int) := by omega
    rw [e, e2]

/-- What the best level is. -/
structure Best (r : Int → Bool) (c : Int → Int) (h lo b : Int) : Prop where
  at_ : b = h ∨ (lo ≤ b ∧ b < h ∧ r b = false)
  top : c b ≤ c h
  all : ∀ l, lo ≤ l → l < h → r l = false → c b ≤ c l
  high : ∀ l, b < l → l < h → r l = false → c b < c l
  hightop : b ≠ h → c b < c h

theorem bst_best (r : Int → Bool) (c : Int → Int) (h : Int) : ∀ k : Nat, Best r c h (h - k) (bst r c h k)
  | 0 => ⟨.inl rfl, Int.le_refl _, fun l h1 h2 => by simp at h1; omega, fun l h1 h2 => by unfold bst at h1; omega, fun h => absurd rfl h⟩
  | k + 1 => by
    have ih := bst_best r c h k
    unfold bst
    by_cases hc : (!r (h - 1 - k) && decide (c (h - 1 - k) < c (bst r c h k))) = true
    · rw [if_pos hc]
      simp at hc
      obtain ⟨hr, hlt⟩ := hc
      refine ⟨.inr ⟨by omega, by omega, hr⟩, by have := ih.top; omega, fun l h1 h2 h3 => ?_, fun l h1 h2 h3 => ?_, fun _ => by have := ih.top; omega⟩
      · by_cases e : l = h - 1 - k
        · rw [e]; exact Int.le_refl _
        · have := ih.all l (by omega) h2 h3; omega
      · have := ih.all l (by omega) h2 h3; omega
    · rw [if_neg hc]
      simp at hc
      refine ⟨?_, ih.top, fun l h1 h2 h3 => ?_, fun l h1 h2 h3 => ih.high l h1 h2 h3, ih.hightop⟩
      · rcases ih.at_ with e | ⟨a1, a2, a3⟩
        · exact .inl e
        · exact .inr ⟨by omega, a2, a3⟩
      · by_cases e : l = h - 1 - k
        · subst e; exact hc h3
        · exact ih.all l (by omega) h2 h3

/-- What the least cost is, behind the levels from lo to cur. -/
structure Least (r : Int → Bool) (c : Int → Int) (h lo cur m : Int) : Prop where
  at_ : m = c h ∨ ∃ l, lo ≤ l ∧ l < cur ∧ r l = false ∧ m = c l
  top : m ≤ c h
  all : ∀ l, lo ≤ l → l < cur → r l = false → m ≤ c l

theorem least_start (r : Int → Bool) (c : Int → Int) (h lo : Int) : Least r c h lo lo (c h) := ⟨.inl rfl, Int.le_refl _, fun l h1 h2 => by omega⟩
theorem least_skip {r : Int → Bool} {c : Int → Int} {h lo cur m : Int} (g : Least r c h lo cur m) (hr : r cur = true) : Least r c h lo (cur + 1) m := by
  refine ⟨?_, g.top, fun l h1 h2 h3 => ?_⟩
  · rcases g.at_ with e | ⟨l, a1, a2, a3⟩
    · exact .inl e
    · exact .inr ⟨l, a1, by omega, a3⟩
  · by_cases e : l = cur
    · subst e; rw [hr] at h3; cases h3
    · exact g.all l h1 (by omega) h3
theorem least_keep {r : Int → Bool} {c : Int → Int} {h lo cur m : Int} (g : Least r c h lo cur m) (hm : ¬ c cur < m) : Least r c h lo (cur + 1) m := by
  refine ⟨?_, g.top, fun l h1 h2 h3 => ?_⟩
  · rcases g.at_ with e | ⟨l, a1, a2, a3⟩
    · exact .inl e
    · exact .inr ⟨l, a1, by omega, a3⟩
  · by_cases e : l = cur
    · subst e; omega
    · exact g.all l h1 (by omega) h3
theorem least_new {r : Int → Bool} {c : Int → Int} {h lo cur m : Int} (g : Least r c h lo cur m) (hlo : lo ≤ cur) (hr : r cur = false) (hm : c cur < m) : Least r c h lo (cur + 1) (c cur) := by
  refine ⟨.inr ⟨cur, hlo, by omega, hr, rfl⟩, by have := g.top; omega, fun l h1 h2 h3 => ?_⟩
  by_cases e : l = cur
  · subst e; exact Int.le_refl _
  · have := g.all l h1 (by omega) h3; omega

theorem least_best {r : Int → Bool} {c : Int → Int} {h lo m b : Int} (g : Least r c h lo h m) (hb : Best r c h lo b) : c b = m := by
  apply Int.le_antisymm
  · rcases g.at_ with e | ⟨l, a1, a2, a3, e⟩
    · rw [e]; exact hb.top
    · rw [e]; exact hb.all l a1 a2 a3
  · rcases hb.at_ with e | ⟨a1, a2, a3⟩
    · rw [e]; exact g.top
    · exact g.all b a1 a2 a3

/-- What 'want' is behind the levels from lo to cur. -/
def Want (r : Int → Bool) (c : Int → Int) (h lo cur m wt : Int) : Prop :=
  (wt = h ∧ ∀ l, lo ≤ l → l < cur → ¬ (r l = false ∧ c l = m)) ∨ (lo ≤ wt ∧ wt < cur ∧ r wt = false ∧ c wt = m ∧ ∀ l, wt < l → l < cur → ¬ (r l = false ∧ c l = m))

theorem want_start (r : Int → Bool) (c : Int → Int) (h lo m : Int) : Want r c h lo lo m h := .inl ⟨rfl, fun l h1 h2 => by omega⟩
theorem want_keep {r : Int → Bool} {c : Int → Int} {h lo cur m wt : Int} (g : Want r c h lo cur m wt) (hn : ¬ (r cur = false ∧ c cur = m)) : Want r c h lo (cur + 1) m wt := by
  rcases g with ⟨e, g⟩ | ⟨a1, a2, a3, a4, g⟩
  · refine .inl ⟨e, fun l h1 h2 => ?_⟩
    by_cases e : l = cur
    · subst e; exact hn
    · exact g l h1 (by omega)
  · refine .inr ⟨a1, by omega, a3, a4, fun l h1 h2 => ?_⟩
    by_cases e : l = cur
    · subst e; exact hn
    · exact g l h1 (by omega)
theorem want_new {r : Int → Bool} {c : Int → Int} {h lo cur m : Int} (hlo : lo ≤ cur) (hr : r cur = false) (hc : c cur = m) : Want r c h lo (cur + 1) m cur :=
  .inr ⟨hlo, by omega, hr, hc, fun l h1 h2 => by omega⟩

/-- c h is the least: the best is h. -/
theorem best_top {r : Int → Bool} {c : Int → Int} {h lo m b : Int} (g : Least r c h lo h m) (hb : Best r c h lo b) (he : c h = m) : b = h := by
  have e := least_best g hb
  by_cases hh : b = h
  · exact hh
  · have := hb.hightop hh; omega
/-- It is not: the best is the highest of least cost. -/
theorem best_want {r : Int → Bool} {c : Int → Int} {h lo m b wt : Int} (g : Least r c h lo h m) (hb : Best r c h lo b) (he : c h ≠ m) (hw : Want r c h lo h m wt) : b = wt := by
  have e := least_best g hb
  rcases hb.at_ with eb | ⟨a1, a2, a3⟩
  · rw [eb] at e; exact absurd e he
  · rcases hw with ⟨_, hw⟩ | ⟨b1, b2, b3, b4, hw⟩
    · exact absurd ⟨a3, e⟩ (hw b a1 a2)
    · by_cases h1 : b < wt
      · have := hb.high wt h1 b2 b3; omega
      · by_cases h2 : wt < b
        · exact absurd ⟨a3, e⟩ (hw b h2 a2)
        · omega
end Go.Proofs.Ybulkdhek
