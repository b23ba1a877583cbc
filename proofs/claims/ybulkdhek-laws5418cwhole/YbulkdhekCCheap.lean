import Derived.Test.YbulkdhekCState
namespace Go.Proofs.Ybulkdhek
open Go.RowKit
set_option linter.unusedVariables false

/-- The levels asked, behind j rounds. -/
def logOf (h : Int) : Nat → List Int
  | 0 => []
  | j + 1 => logOf h j ++ [h - 1 - j]
theorem logOf_len (h : Int) : ∀ j, (logOf h j).length = j
  | 0 => rfl
  | j + 1 => by simp [logOf, logOf_len h j]
theorem logOf_get (h : Int) : ∀ (j i : Nat), i < j → (logOf h j)[i]? = some (h - 1 - i)
  | 0, i, hi => absurd hi (Nat.not_lt_zero _)
  | j + 1, i, hi => by
    rw [logOf]
    by_cases e : i = j
    · subst e
      rw [List.getElem?_append_right (by rw [logOf_len]; omega), logOf_len]; simp
    · rw [List.getElem?_append_left (by rw [logOf_len]; omega)]
      exact logOf_get h j i (by omega)

def clC (E : Env) : Value := .func (.func 8) #[] #[.pointer (some ⟨E.K, 0, none⟩), .pointer (some ⟨E.C, 0, none⟩)]
def clR (E : Env) : Value := .func (.func 10) #[] #[.pointer (some ⟨E.L, 0, none⟩), .pointer (some ⟨E.T, 0, none⟩)]

theorem cnt_hit {r : Int → Bool} {h : Int} {j : Nat} (hr : r (h - 1 - j) = false) : cnt r h (j + 1) = cnt r h j + 1 := by simp [cnt, hr]
theorem cnt_miss {r : Int → Bool} {h : Int} {j : Nat} (hr : r (h - 1 - j) = true) : cnt r h (j + 1) = cnt r h j := by simp [cnt, hr]
theorem bst_hit {r : Int → Bool} {c : Int → Int} {h : Int} {j : Nat} (hr : r (h - 1 - j) = false) (hc : c (h - 1 - j) < c (bst r c h j)) : bst r c h (j + 1) = h - 1 - j := by simp [bst, hr, hc]
theorem bst_keep {r : Int → Bool} {c : Int → Int} {h : Int} {j : Nat} (hc : ¬ c (h - 1 - j) < c (bst r c h j)) : bst r c h (j + 1) = bst r c h j := by simp [bst]; intro _ hh; exact absurd hh hc
theorem bst_miss {r : Int → Bool} {c : Int → Int} {h : Int} {j : Nat} (hr : r (h - 1 - j) = true) : bst r c h (j + 1) = bst r c h j := by simp [bst, hr]

theorem step_miss {r : Int → Bool} {c : Int → Int} {h l b : Int} {j m : Nat} {lg : List Int} (hl : h - 1 - j = l) (hb : bst r c h j = b) (hm : cnt r h j = m) (hg : logOf h j = lg) (hr : r l = true) :
    h - 1 - ((j + 1 : Nat) : Int) = l - 1 ∧ bst r c h (j + 1) = b ∧ cnt r h (j + 1) = m ∧ logOf h (j + 1) = lg ++ [l] := by
  subst hl
  exact ⟨by omega, by rw [bst_miss hr, hb], by rw [cnt_miss hr, hm], by rw [logOf, hg]⟩
theorem step_hit {r : Int → Bool} {c : Int → Int} {h l b : Int} {j m : Nat} {lg : List Int} (hl : h - 1 - j = l) (hb : bst r c h j = b) (hm : cnt r h j = m) (hg : logOf h j = lg) (hr : r l = false) (hc : c l < c b) :
    h - 1 - ((j + 1 : Nat) : Int) = l - 1 ∧ bst r c h (j + 1) = l ∧ cnt r h (j + 1) = m + 1 ∧ logOf h (j + 1) = lg ++ [l] := by
  subst hl
  subst hb
  exact ⟨by omega, by rw [bst_hit hr hc], by rw [cnt_hit hr, hm], by rw [logOf, hg]⟩
theorem step_keep {r : Int → Bool} {c : Int → Int} {h l b : Int} {j m : Nat} {lg : List Int} (hl : h - 1 - j = l) (hb : bst r c h j = b) (hm : cnt r h j = m) (hg : logOf h j = lg) (hr : r l = false) (hc : ¬ c l < c b) :
    h - 1 - ((j + 1 : Nat) : Int) = l - 1 ∧ bst r c h (j + 1) = b ∧ cnt r h (j + 1) = m + 1 ∧ logOf h (j + 1) = lg ++ [l] := by
  subst hl
  subst hb
  exact ⟨by omega, by rw [bst_keep hc], by rw [cnt_hit hr, hm], by rw [logOf, hg]⟩

set_option maxRecDepth 100000 in
set_option maxHeartbeats 2000000 in
theorem cheap_ref (E : Env) (hE : E.Ok) (w : World) (lo : Int) (hlo : -65536 ≤ lo) (hlo2 : lo ≤ 9223372036854775807) (lv : Value) (h0 : St E w 0 [] lv) (N : Nat) (hN1 : (E.h : Int) - lo ≤ N) (hN2 : N = 0 ∨ (N : Int) = (E.h : Int) - lo) :
    Calls Yba.prog 12 #[.pointer (some ⟨E.O, 0, none⟩), .int .i64 lo, .func (.func 8) #[] #[.pointer (some ⟨E.K, 0, none⟩), .pointer (some ⟨E.C, 0, none⟩)], .func (.func 10) #[] #[.pointer (some ⟨E.L, 0, none⟩), .pointer (some ⟨E.T, 0, none⟩)]] w
      fun e w' => e = .returned (.int .i64 (bst (rF E.ts) (cF E.cs) E.h N)) ∧ ∃ lv', St E w' (2 * cnt (rF E.ts) E.h N) (logOf E.h N) lv' := by
  have hh := hE.hh
  have c1 := h0.cO
  have HN : Hid (((E.h : Int) - lo ≤ N) ∧ (N = 0 ∨ (N : Int) = (E.h : Int) - lo)) := ⟨hN1, hN2⟩
  have H0 : Hid (St E w 0 [] lv) := h0
  have hnil : ∀ w, (binOp .eql 64 (.func (.func 10) #[] #[.pointer (some ⟨E.L, 0, none⟩), .pointer (some ⟨E.T, 0, none⟩)]) .nilFunc).run Yba.prog w = .ok (.bool false) w := fun w => by kernel_rfl
  clear hN1 hN2 h0
  go_enter Yba.func12, Yba.ntmps12
  go_wp2
  go_loopw [9, 10] (fun vb vl wr => ∃ j : Nat, j ≤ N ∧ vl = .int .i64 ((E.h : Int) - 1 - j) ∧ vb = .int .i64 (bst (rF E.ts) (cF E.cs) E.h j) ∧ ∃ v, St E wr (2 * cnt (rF E.ts) E.h j) (logOf E.h j) v) (fun _ vl _ => (intOf vl - lo + 1).toNat)
  case atStart => exact ⟨0, by omega, by go_num, rfl, lv, H0.out⟩
  case round =>
    clear H0 c1
    obtain ⟨j, hj, rfl, rfl, v, hst⟩ := hrel
    have hjN : (j : Int) ≤ 65836 := by rcases HN.out.2 with h | h <;> omega
    have hcj := cnt_le (rF E.ts) E.h j
    have hll := logOf_len E.h j
    by_cases hge : lo ≤ (E.h : Int) - 1 - j
    · have hjN' : j + 1 ≤ N := by have := HN.out.1; omega
      obtain ⟨l, hl⟩ : ∃ l, (E.h : Int) - 1 - j = l := ⟨_, rfl⟩
      obtain ⟨b, hb⟩ : ∃ b, bst (rF E.ts) (cF E.cs) E.h j = b := ⟨_, rfl⟩
      have HL : Hid ((E.h : Int) - 1 - j = l ∧ bst (rF E.ts) (cF E.cs) E.h j = b) := ⟨hl, hb⟩
      rw [hl] at hge
      rw [hl, hb]
      clear hl hb
      have hst' : St E wr (2 * cnt (rF E.ts) E.h j) (logOf E.h j) v := hst
      clear hst
      obtain ⟨m, hm⟩ : ∃ m, cnt (rF E.ts) E.h j = m := ⟨_, rfl⟩
      have HM : Hid (cnt (rF E.ts) E.h j = m) := hm
      rw [hm] at hst' hcj
      obtain ⟨lg, hlg⟩ : ∃ lg, logOf E.h j = lg := ⟨_, rfl⟩
      have HG : Hid (logOf E.h j = lg) := hlg
      rw [hlg] at hst' hll
      clear hm hlg
      have hl1 : lg.length ≤ 1000000 := by omega
      clear hll
      have hl2 : l ≤ 300 := by have := HL.out.1; omega
      cases hr : rF E.ts l with
      | true =>
        go_wp2_with (first | (go_at_call 10; refine (rclos E hE _ _ _ _ hst' _ hl1).mono ?_; rintro e w' ⟨rfl, v', hst2⟩) | (go_at_call 8; refine (cclos E hE _ _ _ _ (by assumption) _ (by omega)).mono ?_; rintro e w' ⟨rfl, hst3⟩))
        go_roundw
        case rel =>
          obtain ⟨e1, e2, e3, e4⟩ := step_miss (c := cF E.cs) HL.out.1 HL.out.2 HM.out HG.out hr
          refine ⟨j + 1, hjN', by rw [e1], by rw [e2], v', ?_⟩
          rw [e3, e4]; exact hst2
        case measure => simp [intOf]; omega
      | false =>
        by_cases hlt : cF E.cs l < cF E.cs b
        · go_wp2_with (first | (go_at_call 10; refine (rclos E hE _ _ _ _ hst' _ hl1).mono ?_; rintro e w' ⟨rfl, v', hst2⟩) | (go_at_call 8; refine (cclos E hE _ _ _ _ (by assumption) _ (by omega)).mono ?_; rintro e w' ⟨rfl, hst3⟩))
          go_roundw
          case rel =>
            obtain ⟨e1, e2, e3, e4⟩ := step_hit HL.out.1 HL.out.2 HM.out HG.out hr hlt
            refine ⟨j + 1, hjN', by rw [e1], by rw [e2], v', ?_⟩
            rw [e3, e4]; assumption
          case measure => simp [intOf]; omega
        · go_wp2_with (first | (go_at_call 10; refine (rclos E hE _ _ _ _ hst' _ hl1).mono ?_; rintro e w' ⟨rfl, v', hst2⟩) | (go_at_call 8; refine (cclos E hE _ _ _ _ (by assumption) _ (by omega)).mono ?_; rintro e w' ⟨rfl, hst3⟩))
          go_roundw
          case rel =>
            obtain ⟨e1, e2, e3, e4⟩ := step_keep HL.out.1 HL.out.2 HM.out HG.out hr (by omega)
            refine ⟨j + 1, hjN', by rw [e1], by rw [e2], v', ?_⟩
            rw [e3, e4]; assumption
          case measure => simp [intOf]; omega
    · have e : N = j := by rcases HN.out.2 with h | h <;> omega
      have HS : Hid (St E wr (2 * cnt (rF E.ts) E.h j) (logOf E.h j) v) := hst
      have HE : Hid (N = j) := e
      clear hst e
      go_wp2
      go_ret
      rw [HE.out]
      exact ⟨rfl, v, HS.out⟩

set_option maxRecDepth 100000 in
set_option maxHeartbeats 2000000 in
theorem cheap_nil (E : Env) (hE : E.Ok) (w : World) (lo : Int) (hlo : -65536 ≤ lo) (hlo2 : lo ≤ 9223372036854775807) (lv : Value) (h0 : St E w 0 [] lv) (N : Nat) (hN1 : (E.h : Int) - lo ≤ N) (hN2 : N = 0 ∨ (N : Int) = (E.h : Int) - lo) :
    Calls Yba.prog 12 #[.pointer (some ⟨E.O, 0, none⟩), .int .i64 lo, .func (.func 8) #[] #[.pointer (some ⟨E.K, 0, none⟩), .pointer (some ⟨E.C, 0, none⟩)], .nilFunc] w
      fun e w' => e = .returned (.int .i64 (bst (fun _ => false) (cF E.cs) E.h N)) ∧ ∃ lv', St E w' (2 * cnt (fun _ => false) E.h N) [] lv' := by
  have hh := hE.hh
  have c1 := h0.cO
  have HN : Hid (((E.h : Int) - lo ≤ N) ∧ (N = 0 ∨ (N : Int) = (E.h : Int) - lo)) := ⟨hN1, hN2⟩
  have H0 : Hid (St E w 0 [] lv) := h0
  have hnil : ∀ w, (binOp .eql 64 .nilFunc .nilFunc).run Yba.prog w = .ok (.bool true) w := fun w => by kernel_rfl
  clear hN1 hN2 h0
  go_enter Yba.func12, Yba.ntmps12
  go_wp2
  go_loopw [9, 10] (fun vb vl wr => ∃ j : Nat, j ≤ N ∧ vl = .int .i64 ((E.h : Int) - 1 - j) ∧ vb = .int .i64 (bst (fun _ => false) (cF E.cs) E.h j) ∧ ∃ v, St E wr (2 * cnt (fun _ => false) E.h j) [] v) (fun _ vl _ => (intOf vl - lo + 1).toNat)
  case atStart => exact ⟨0, by omega, by go_num, rfl, lv, H0.out⟩
  case round =>
    clear H0 c1
    obtain ⟨j, hj, rfl, rfl, v, hst⟩ := hrel
    have hjN : (j : Int) ≤ 65836 := by rcases HN.out.2 with h | h <;> omega
    have hcj := cnt_le (fun _ => false) E.h j
    by_cases hge : lo ≤ (E.h : Int) - 1 - j
    · have hjN' : j + 1 ≤ N := by have := HN.out.1; omega
      obtain ⟨l, hl⟩ : ∃ l, (E.h : Int) - 1 - j = l := ⟨_, rfl⟩
      obtain ⟨b, hb⟩ : ∃ b, bst (fun _ => false) (cF E.cs) E.h j = b := ⟨_, rfl⟩
      have HL : Hid ((E.h : Int) - 1 - j = l ∧ bst (fun _ => false) (cF E.cs) E.h j = b) := ⟨hl, hb⟩
      rw [hl] at hge
      rw [hl, hb]
      clear hl hb
      have hst' : St E wr (2 * cnt (fun _ => false) E.h j) [] v := hst
      clear hst
      obtain ⟨m, hm⟩ : ∃ m, cnt (fun _ => false) E.h j = m := ⟨_, rfl⟩
      have HM : Hid (cnt (fun _ => false) E.h j = m) := hm
      rw [hm] at hst' hcj
      clear hm
      have hl2 : l ≤ 300 := by have := HL.out.1; omega
      by_cases hlt : cF E.cs l < cF E.cs b
      · go_wp2_with (go_at_call 8; refine (cclos E hE _ _ _ _ (by assumption) _ (by omega)).mono ?_; rintro e w' ⟨rfl, hst3⟩)
        go_roundw
        case rel =>
          obtain ⟨e1, e2, e3, e4⟩ := step_hit HL.out.1 HL.out.2 HM.out rfl rfl hlt
          refine ⟨j + 1, hjN', by rw [e1], by rw [e2], v, ?_⟩
          rw [e3]; assumption
        case measure => simp [intOf]; omega
      · go_wp2_with (go_at_call 8; refine (cclos E hE _ _ _ _ (by assumption) _ (by omega)).mono ?_; rintro e w' ⟨rfl, hst3⟩)
        go_roundw
        case rel =>
          obtain ⟨e1, e2, e3, e4⟩ := step_keep HL.out.1 HL.out.2 HM.out rfl rfl (by omega)
          refine ⟨j + 1, hjN', by rw [e1], by rw [e2], v, ?_⟩
          rw [e3]; assumption
        case measure => simp [intOf]; omega
    · have e : N = j := by rcases HN.out.2 with h | h <;> omega
      have HS : Hid (St E wr (2 * cnt (fun _ => false) E.h j) [] v) := hst
      have HE : Hid (N = j) := e
      clear hst e
      go_wp2
      go_ret
      rw [HE.out]
      exact ⟨rfl, v, HS.out⟩
end Go.Proofs.Ybulkdhek
