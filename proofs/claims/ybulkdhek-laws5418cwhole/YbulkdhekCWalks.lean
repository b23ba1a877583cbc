import Derived.Test.YbulkdhekRow
import Derived.Test.YbulkdhekCPlain
import Derived.Deep.AppendLies
namespace Go.Proofs.Ybulkdhek
open Go.RowKit
set_option linter.unusedVariables false

/-- A slice that is read: where it has elements it has an address; its cells. -/
def LiesC (w : World) (a : Option Addr) (n : Nat) (F : Nat → Value) : Prop := ∀ j, j < n → ∃ b o, a = some ⟨b, o, none⟩ ∧ b < w.heap.size ∧ ∀ i, i < n → w.cell? ⟨b, o + i, none⟩ = some (F i)
theorem LiesC.kept {S : Nat → Prop} {w w' : World} {a : Option Addr} {n : Nat} {F : Nat → Value} (h : LiesC w a n F) (k : Kept S w w') (hs : ∀ b o, a = some ⟨b, o, none⟩ → ¬ S b) : LiesC w' a n F := by
  intro j hj
  obtain ⟨b, o, e, hb, hc⟩ := h j hj
  exact ⟨b, o, e, Nat.lt_of_lt_of_le hb k.size, fun i hi => (World.cell?_of_block (w := w) (a := ⟨b, o + i, none⟩) (k.block b hb (hs b o e))).trans (hc i hi)⟩

def cF (cs : List Int) (l : Int) : Int := if cs.length = 0 then 0 else cs.getD (l % (cs.length : Int)).toNat 0
def rF (ts : List Bool) (l : Int) : Bool := if ts.length = 0 then false else ts.getD (l % (ts.length : Int)).toNat false

theorem tmod_parts (l : Int) (n : Nat) (hn : 1 ≤ n) : ∃ t : Int, l.tmod (n : Int) = t ∧ -(n : Int) < t ∧ t < n ∧ l % (n : Int) = if t < 0 then t + n else t := by
  refine ⟨l.tmod n, rfl, ?_⟩
  have h1 := Int.emod_nonneg l (show (n : Int) ≠ 0 by omega)
  have h2 := Int.emod_lt_of_pos l (show (0 : Int) < n by omega)
  by_cases hl : 0 ≤ l
  · rw [Int.tmod_eq_emod_of_nonneg hl]
    exact ⟨by omega, by omega, by rw [if_neg (by omega)]⟩
  · have e : l.tmod n = -((-l) % n) := by
      rw [← Int.tmod_eq_emod_of_nonneg (a := -l) (by omega), Int.neg_tmod]; omega
    have g1 := Int.emod_nonneg (-l) (show (n : Int) ≠ 0 by omega)
    have g2 := Int.emod_lt_of_pos (-l) (show (0 : Int) < n by omega)
    rw [e]
    refine ⟨by omega, by omega, ?_⟩
    have d1 := Int.emod_add_mul_ediv l n
    have d2 := Int.emod_add_mul_ediv (-l) n
    have hs : (l % n + (-l) % n) = n * (-(l / n) - (-l) / n) := by
      rw [Int.mul_sub, Int.mul_neg]; omega
    split
    · -- both are not zero: their sum is n
      have : -(l / n) - (-l) / n = 1 := by
        by_cases c1 : -(l / n) - (-l) / n ≤ 0
        · have := Int.mul_nonpos_of_nonneg_of_nonpos (show (0 : Int) ≤ n by omega) c1
          omega
        · by_cases c2 : 2 ≤ -(l / n) - (-l) / n
          · have := Int.mul_le_mul_of_nonneg_left c2 (show (0 : Int) ≤ n by omega)
            omega
          · omega
      rw [this] at hs
      omega
    · have z : (-l) % n = 0 := by omega
      rw [z] at hs ⊢
      by_cases c1 : -(l / n) - (-l) / n ≤ 0
      · have := Int.mul_nonpos_of_nonneg_of_nonpos (show (0 : Int) ≤ n by omega) c1
        omega
      · have := Int.mul_le_mul_of_nonneg_left (show 1 ≤ -(l / n) - (-l) / n by omega) (show (0 : Int) ≤ n by omega)
        omega

set_option maxHeartbeats 400000 in
theorem idx_any (l : Int) (n : Nat) (hn1 : 1 ≤ n) (hn : n ≤ 9223372036854775807) (w : World) :
    Calls Yba.prog 13 #[.int .i64 l, .int .i64 n] w fun e w' => e = .returned (.int .i64 (l % (n : Int))) ∧ w' = w := by
  obtain ⟨t, ht, t1, t2, t3⟩ := tmod_parts l n hn1
  have HT : Hid (l % (n : Int) = if t < 0 then t + n else t) := t3
  have hn0 : ((n : Int) == 0) = false := by simp; omega
  clear t3
  by_cases hneg : t < 0
  · go_enter Yba.func13, Yba.ntmps13
    go_wp2
    go_ret
    exact ⟨by rw [HT.out, if_pos hneg]; rfl, rfl⟩
  · go_enter Yba.func13, Yba.ntmps13
    go_wp2
    go_ret
    exact ⟨by rw [HT.out, if_neg (by omega)]; rfl, rfl⟩

set_option maxHeartbeats 400000 in
theorem cost_any (ca : Option Addr) (cl cc : Nat) (cs : List Int) (l : Int) (w : World) (hl : cs.length = cl) (hcl : cl ≤ 9223372036854775807) (hL : LiesC w ca cl (fun j => .int .i64 (cs.getD j 0))) :
    Calls Yba.prog 9 #[.slice ca cl cc, .int .i64 l] w fun e w' => e = .returned (.int .i64 (cF cs l)) ∧ w' = w := by
  have HL : Hid (cs.length = cl) := hl
  clear hl
  by_cases h0 : cl = 0
  · have hn0 : ((cl : Int) == 0) = true := by simp; omega
    have H0 : Hid (cl = 0) := h0
    clear h0 hL
    go_enter Yba.func9, Yba.ntmps9
    go_wp2
    go_ret
    exact ⟨by unfold cF; rw [if_pos (HL.out.trans H0.out)]; rfl, rfl⟩
  · have hn0 : ((cl : Int) == 0) = false := by simp; omega
    have h1 : 0 < cl := by omega
    obtain ⟨b, o, rfl, hb, hc⟩ := hL 0 h1
    have g1 := Int.emod_nonneg l (show (cl : Int) ≠ 0 by omega)
    have g2 := Int.emod_lt_of_pos l (show (0 : Int) < cl by omega)
    obtain ⟨r, hr⟩ : ∃ r : Nat, l % (cl : Int) = (r : Int) := ⟨(l % (cl : Int)).toNat, by omega⟩
    have hcr := hc r (by omega)
    rw [hr] at g1 g2
    have HR : Hid (l % (cl : Int) = (r : Int)) := hr
    clear hr hc hL h0
    go_enter Yba.func9, Yba.ntmps9
    go_wp2_with (go_at_call 13; refine (idx_any l cl h1 hcl _).mono ?_; rw [HR.out]; rintro e w' ⟨rfl, rfl⟩)
    go_ret
    exact ⟨by unfold cF; rw [if_neg (by rw [HL.out]; omega), HL.out, HR.out]; rfl, rfl⟩

set_option maxHeartbeats 400000 in
theorem ref_any (u : Bool) (ta : Option Addr) (tl tc : Nat) (ts : List Bool) (l : Int) (w : World) (hl : ts.length = tl) (htl : tl ≤ 9223372036854775807) (hL : LiesC w ta tl (fun j => .bool (ts.getD j false))) :
    Calls Yba.prog 11 #[.bool u, .slice ta tl tc, .int .i64 l] w fun e w' => e = .returned (.bool (u && rF ts l)) ∧ w' = w := by
  have HL : Hid (ts.length = tl) := hl
  clear hl
  cases u with
  | false =>
    clear hL
    go_enter Yba.func11, Yba.ntmps11
    go_wp2
    go_ret
    exact ⟨rfl, rfl⟩
  | true =>
    by_cases h0 : tl = 0
    · have hn0 : ((tl : Int) == 0) = true := by simp; omega
      have H0 : Hid (tl = 0) := h0
      clear h0 hL
      go_enter Yba.func11, Yba.ntmps11
      go_wp2
      go_ret
      exact ⟨by unfold rF; rw [if_pos (HL.out.trans H0.out)]; rfl, rfl⟩
    · have hn0 : ((tl : Int) == 0) = false := by simp; omega
      have h1 : 0 < tl := by omega
      obtain ⟨b, o, rfl, hb, hc⟩ := hL 0 h1
      have g1 := Int.emod_nonneg l (show (tl : Int) ≠ 0 by omega)
      have g2 := Int.emod_lt_of_pos l (show (0 : Int) < tl by omega)
      obtain ⟨r, hr⟩ : ∃ r : Nat, l % (tl : Int) = (r : Int) := ⟨(l % (tl : Int)).toNat, by omega⟩
      have hcr := hc r (by omega)
      rw [hr] at g1 g2
      have HR : Hid (l % (tl : Int) = (r : Int)) := hr
      clear hr hc hL h0
      go_enter Yba.func11, Yba.ntmps11
      go_wp2_with (go_at_call 13; refine (idx_any l tl h1 htl _).mono ?_; rw [HR.out]; rintro e w' ⟨rfl, rfl⟩)
      go_ret
      exact ⟨by unfold rF; rw [if_neg (by rw [HL.out]; omega), HL.out, HR.out]; simp, rfl⟩
end Go.Proofs.Ybulkdhek
