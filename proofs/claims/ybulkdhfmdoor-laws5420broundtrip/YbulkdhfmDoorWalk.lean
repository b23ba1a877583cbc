import Derived.Test.YbulkdhfmDoorRows
import Derived.Test.YbulkdhfmDoorShelf
import Derived.WalkKit
import Derived.WalkSpells
import Derived.WalkLawsBesides
import Derived.Handy
import Derived.Laws.Rows
import Derived.Lib.ItoaLen
namespace Go.Proofs.YbulkdhfmDoor
open Go.RowKit
set_option linter.unusedVariables false

set_option maxHeartbeats 1000000 in
/-- equalFoldASCII: the same lower-case word. -/
theorem eq_true (s : ByteArray) (hs : s.size ≤ 100) (hl : ∀ i (h : i < s.size), (97 : Int) ≤ (s[i].toNat : Int)) (w : World) :
    Calls Ybad.prog 19 #[.string s, .string s] w fun e w' => e = .returned (.bool true) ∧ w' = w := by
  go_enter Ybad.func19, Ybad.ntmps19
  go_wp2
  go_loop [4, 5, 6] (fun v4 v5 v6 => v4 = .bool false ∧ ∃ k : Nat, k ≤ s.size ∧ v5 = .int .i64 k) (fun _ v5 _ => s.size - (intOf v5).toNat)
  case atStart => exact ⟨rfl, 0, by omega, rfl⟩
  case round =>
    obtain ⟨rfl, k, hk, rfl⟩ := hrel
    by_cases hlt : k < s.size
    · have HL := hl k hlt
      go_wp2
      go_round
      case rel => exact ⟨rfl, k + 1, by omega, by go_num⟩
      case measure => simp [intOf]; omega
    · go_wp2
      go_ret
      exact ⟨rfl, rfl⟩

set_option maxHeartbeats 1000000 in
/-- equalFoldASCII: words whose first letters differ. -/
theorem eq_false (s t : ByteArray) (hs : s.size ≤ 100) (ht : t.size ≤ 100) (h0 : 0 < s.size) (h1 : 0 < t.size) (c d : Nat) (ec : s[0].toNat = c) (ed : t[0].toNat = d) (hc : 97 ≤ c ∨ c = 80) (hne : c ≠ d) (hp : 112 ≠ d) (w : World) :
    Calls Ybad.prog 19 #[.string s, .string t] w fun e w' => e = .returned (.bool false) ∧ w' = w := by
  go_enter Ybad.func19, Ybad.ntmps19
  by_cases hst : s.size = t.size
  · go_wp2
    go_loop [4, 5, 6] (fun v4 v5 v6 => v4 = .bool false ∧ v5 = .int .i64 0) (fun _ v5 _ => 1)
    case atStart => exact ⟨rfl, rfl⟩
    case round =>
      obtain ⟨rfl, rfl⟩ := hrel
      rcases hc with hc | hc
      · go_wp2
        go_ret
        exact ⟨rfl, rfl⟩
      · go_wp2
        go_ret
        exact ⟨rfl, rfl⟩
  · go_wp2
    go_ret
    exact ⟨rfl, rfl⟩

/-- The five names. -/
def nm : Nat → ByteArray
  | 0 => ⟨#[99, 114, 105, 116, 105, 99, 97, 108]⟩
  | 1 => ⟨#[105, 109, 112, 111, 114, 116, 97, 110, 116]⟩
  | 2 => ⟨#[110, 111, 114, 109, 97, 108]⟩
  | 3 => ⟨#[98, 97, 99, 107, 103, 114, 111, 117, 110, 100]⟩
  | _ => ⟨#[100, 101, 103, 114, 97, 100, 101, 100]⟩
def nmv : Array Value := #[.string (nm 0), .string (nm 1), .string (nm 2), .string (nm 3), .string (nm 4)]
theorem idx0 (w : World) : (Instr.index 65 (.agg nmv) (.int .i64 0)).run Ybad.prog w = .ok (.string (nm 0)) w := by kernel_rfl
theorem idx1 (w : World) : (Instr.index 65 (.agg nmv) (.int .i64 1)).run Ybad.prog w = .ok (.string (nm 1)) w := by kernel_rfl
theorem idx2 (w : World) : (Instr.index 65 (.agg nmv) (.int .i64 2)).run Ybad.prog w = .ok (.string (nm 2)) w := by kernel_rfl
theorem idx3 (w : World) : (Instr.index 65 (.agg nmv) (.int .i64 3)).run Ybad.prog w = .ok (.string (nm 3)) w := by kernel_rfl
theorem idx4 (w : World) : (Instr.index 65 (.agg nmv) (.int .i64 4)).run Ybad.prog w = .ok (.string (nm 4)) w := by kernel_rfl
theorem idx (k : Nat) (h : k < 5) (w : World) : (Instr.index 65 (.agg nmv) (.int .i64 (k : Int))).run Ybad.prog w = .ok (.string (nm k)) w := by
  obtain rfl | rfl | rfl | rfl | rfl : k = 0 ∨ k = 1 ∨ k = 2 ∨ k = 3 ∨ k = 4 := by omega
  · exact idx0 w
  · exact idx1 w
  · exact idx2 w
  · exact idx3 w
  · exact idx4 w

set_option maxRecDepth 100000 in
set_option maxHeartbeats 2000000 in
/-- ParsePriority: the first name that equalFoldASCII takes. -/
theorem parse (s : ByteArray) (w : World) (m : Nat) (hm : m ≤ 5) (tt : TypeId) (fr : Nat × Nat) (hg : w.heap[0]? = some (.cells nmv tt fr))
    (hlt : ∀ k, k < m → Calls Ybad.prog 19 #[.string s, .string (nm k)] w fun e w' => e = .returned (.bool false) ∧ w' = w)
    (heq : m < 5 → Calls Ybad.prog 19 #[.string s, .string (nm m)] w fun e w' => e = .returned (.bool true) ∧ w' = w) :
    Calls Ybad.prog 9 #[.string s] w fun e w' => (m < 5 → e = .returned (.tuple #[.int .i64 m, .bool true])) ∧ (m = 5 → e = .returned (.tuple #[.int .i64 2, .bool false])) ∧ w' = w := by
  go_enter Ybad.func9, Ybad.ntmps9
  go_wp2_with (refine wpList_load_row rfl 65 _ rfl 0 rfl tt _ fr _ hg Ybad.underlying65 rfl (by kernel_rfl) ?_)
  go_loop [2, 3, 4, 5, 7] (fun _ _ _ _ v7 => ∃ k : Nat, k ≤ m ∧ v7 = .int .i64 k) (fun _ _ _ _ v7 => 5 - (intOf v7).toNat)
  case atStart => exact ⟨0, by omega, rfl⟩
  case round =>
    obtain ⟨k, hk, rfl⟩ := hrel
    by_cases hk5 : k < 5
    · have hi := idx k hk5 w
      by_cases hkm : k < m
      · have hcall := hlt k hkm
        obtain ⟨t, et⟩ : ∃ t, nm k = t := ⟨_, rfl⟩
        obtain ⟨tb, etb⟩ : ∃ t, nmv = t := ⟨_, rfl⟩
        rw [et] at hi hcall
        rw [etb] at hi
        rw [etb]
        clear hlt heq et etb hg
        go_wp2_with (go_at_call 19; refine hcall.mono ?_; rintro _ _ ⟨rfl, rfl⟩)
        go_round
        case rel => exact ⟨k + 1, by omega, by go_num⟩
        case measure => simp [intOf]; omega
      · obtain rfl : k = m := by omega
        have hcall := heq hk5
        obtain ⟨t, et⟩ : ∃ t, nm k = t := ⟨_, rfl⟩
        obtain ⟨tb, etb⟩ : ∃ t, nmv = t := ⟨_, rfl⟩
        rw [et] at hi hcall
        rw [etb] at hi
        rw [etb]
        clear hlt heq et etb hg
        go_wp2_with (go_at_call 19; refine hcall.mono ?_; rintro _ _ ⟨rfl, rfl⟩)
        go_ret2
        exact ⟨fun _ => rfl, fun e => by omega, rfl⟩
    · go_wp2
      go_ret2
      exact ⟨fun e => by omega, fun _ => rfl, rfl⟩

theorem nm_size (k : Nat) (h : k < 5) : 0 < (nm k).size ∧ (nm k).size ≤ 100 := by
  obtain rfl | rfl | rfl | rfl | rfl : k = 0 ∨ k = 1 ∨ k = 2 ∨ k = 3 ∨ k = 4 := by omega
  all_goals exact ⟨by decide, by decide⟩
theorem nm_low (k : Nat) (h : k < 5) : ∀ i (h : i < (nm k).size), (97 : Int) ≤ ((nm k)[i].toNat : Int) := by
  obtain rfl | rfl | rfl | rfl | rfl : k = 0 ∨ k = 1 ∨ k = 2 ∨ k = 3 ∨ k = 4 := by omega
  all_goals decide
def hd : Nat → Nat
  | 0 => 99
  | 1 => 105
  | 2 => 110
  | 3 => 98
  | _ => 100
theorem nm_hd (k : Nat) (h : k < 5) : ((nm k)[0]'(nm_size k h).1).toNat = hd k := by
  obtain rfl | rfl | rfl | rfl | rfl : k = 0 ∨ k = 1 ∨ k = 2 ∨ k = 3 ∨ k = 4 := by omega
  all_goals rfl
theorem hd_ne (k j : Nat) (h : k < 5) (h' : j < k) : hd k ≠ hd j := by
  obtain rfl | rfl | rfl | rfl | rfl : k = 0 ∨ k = 1 ∨ k = 2 ∨ k = 3 ∨ k = 4 := by omega
  all_goals obtain rfl | rfl | rfl | rfl : j = 0 ∨ j = 1 ∨ j = 2 ∨ j = 3 := by omega
  all_goals first | omega | decide

/-- Nothing that stood before is touched. -/
abbrev Grew (w w' : World) : Prop := ∃ k os, w' = Sort.grow (w.drewN k) os

set_option maxRecDepth 100000 in
set_option maxHeartbeats 2000000 in
/-- Priority.String within the names. -/
theorem str_in (n : Nat) (hn : n < 5) (w : World) (hc : w.cell? ⟨0, n, none⟩ = some (.string (nm n))) :
    Calls Ybad.prog 6 #[.int .i64 n] w fun e w' => e = .returned (.string (nm n)) ∧ w' = w := by
  obtain ⟨t, et⟩ : ∃ t, nm n = t := ⟨_, rfl⟩
  rw [et] at hc ⊢
  clear et
  have e3 : Ybad.prog.cellsOf 9 = 1 := by kernel_rfl
  go_enter Ybad.func6, Ybad.ntmps6
  go_wp2
  go_ret
  exact ⟨rfl, rfl⟩

theorem out_text (l : List UInt8) (hl : l.length ≤ 21) : ∃ h : 0 < (ByteArray.mk #[80, 114, 105, 111, 114, 105, 116, 121, 40] ++ ByteArray.mk l.toArray ++ ByteArray.mk #[41]).size,
    (ByteArray.mk #[80, 114, 105, 111, 114, 105, 116, 121, 40] ++ ByteArray.mk l.toArray ++ ByteArray.mk #[41]).size ≤ 100 ∧ ((ByteArray.mk #[80, 114, 105, 111, 114, 105, 116, 121, 40] ++ ByteArray.mk l.toArray ++ ByteArray.mk #[41])[0]).toNat = 80 := by
  have e : (ByteArray.mk #[80, 114, 105, 111, 114, 105, 116, 121, 40] ++ ByteArray.mk l.toArray ++ ByteArray.mk #[41]).size = 10 + l.length := by
    simp [ByteArray.size]; omega
  refine ⟨by omega, by omega, ?_⟩
  simp only [ByteArray.getElem_eq_getElem_data, ByteArray.data_append]
  simp

set_option maxRecDepth 100000 in
set_option maxHeartbeats 2000000 in
/-- Priority.String outside the names. -/
theorem str_out (n : Int) (h0 : -9223372036854775808 ≤ n) (h1 : n ≤ 9223372036854775807) (ho : n < 0 ∨ 5 ≤ n) (w : World) (htab : Lib.TabIs Ybad.prog w "internal/strconv.uint64pow10" .u64 Lib.pow10Tab) :
    Calls Ybad.prog 6 #[.int .i64 n] w fun e w' => (∃ s : ByteArray, ∃ h : 0 < s.size, s.size ≤ 100 ∧ s[0].toNat = 80 ∧ e = .returned (.string s)) ∧ Grew w w' := by
  have hI := Ybad.strconv_Itoa n h0 h1 w htab
  have hlen := Lib.itoa_length_le n h0 h1
  obtain ⟨l, el⟩ : ∃ l, Lib.itoa n = l := ⟨_, rfl⟩
  rw [el] at hI hlen
  clear el
  rcases ho with ho | ho
  · go_enter Ybad.func6, Ybad.ntmps6
    go_wp2_with (go_at_call 18; refine hI.mono ?_; rintro _ wG ⟨rfl, hG⟩)
    go_ret
    obtain ⟨x, y, z⟩ := out_text l hlen
    exact ⟨⟨_, x, y, z, rfl⟩, hG⟩
  · go_enter Ybad.func6, Ybad.ntmps6
    go_wp2_with (go_at_call 18; refine hI.mono ?_; rintro _ wG ⟨rfl, hG⟩)
    go_ret
    obtain ⟨x, y, z⟩ := out_text l hlen
    exact ⟨⟨_, x, y, z, rfl⟩, hG⟩

theorem parse_in (n : Nat) (hn : n < 5) (w : World) (tt : TypeId) (fr : Nat × Nat) (hg : w.heap[0]? = some (.cells nmv tt fr)) :
    Calls Ybad.prog 9 #[.string (nm n)] w fun e w' => e = .returned (.tuple #[.int .i64 n, .bool true]) ∧ w' = w := by
  refine (parse (nm n) w n (by omega) tt fr hg (fun k hk => ?_) (fun _ => eq_true _ (nm_size n hn).2 (nm_low n hn) w)).mono fun e w' ⟨a, _, c⟩ => ⟨a hn, c⟩
  have h5 : k < 5 := by omega
  have hl := nm_low n hn 0 (nm_size n hn).1
  rw [nm_hd n hn] at hl
  exact eq_false _ _ (nm_size n hn).2 (nm_size k h5).2 (nm_size n hn).1 (nm_size k h5).1 _ _ (nm_hd n hn) (nm_hd k h5) (Or.inl (by omega)) (hd_ne n k hn hk)
    (by obtain rfl | rfl | rfl | rfl | rfl : k = 0 ∨ k = 1 ∨ k = 2 ∨ k = 3 ∨ k = 4 := by omega
        all_goals decide) w

theorem parse_out (s : ByteArray) (h : 0 < s.size) (hs : s.size ≤ 100) (h80 : s[0].toNat = 80) (w : World) (tt : TypeId) (fr : Nat × Nat) (hg : w.heap[0]? = some (.cells nmv tt fr)) :
    Calls Ybad.prog 9 #[.string s] w fun e w' => e = .returned (.tuple #[.int .i64 2, .bool false]) ∧ w' = w := by
  refine (parse s w 5 (by omega) tt fr hg (fun k h5 => ?_) (fun e => by omega)).mono fun e w' ⟨_, b, c⟩ => ⟨b rfl, c⟩
  exact eq_false _ _ hs (nm_size k h5).2 h (nm_size k h5).1 _ _ h80 (nm_hd k h5) (Or.inr rfl)
    (by obtain rfl | rfl | rfl | rfl | rfl : k = 0 ∨ k = 1 ∨ k = 2 ∨ k = 3 ∨ k = 4 := by omega
        all_goals decide)
    (by obtain rfl | rfl | rfl | rfl | rfl : k = 0 ∨ k = 1 ∨ k = 2 ∨ k = 3 ∨ k = 4 := by omega
        all_goals decide) w

theorem cell_of_block {w : World} {tt : TypeId} {fr : Nat × Nat} (hg : w.heap[0]? = some (.cells nmv tt fr)) (n : Nat) (hn : n < 5) : w.cell? ⟨0, n, none⟩ = some (.string (nm n)) := by
  obtain rfl | rfl | rfl | rfl | rfl : n = 0 ∨ n = 1 ∨ n = 2 ∨ n = 3 ∨ n = 4 := by omega
  all_goals simp [World.cell?, hg, nmv]

theorem grew_block {w w' : World} {tt : TypeId} {fr : Nat × Nat} (h : Grew w w') (hg : w.heap[0]? = some (.cells nmv tt fr)) : w'.heap[0]? = some (.cells nmv tt fr) := by
  obtain ⟨k, os, rfl⟩ := h
  have : 0 < w.heap.size := by
    rcases Nat.eq_zero_or_pos w.heap.size with e | e
    · rw [Array.getElem?_eq_none (by omega)] at hg; cases hg
    · exact e
  simp [Sort.grow, Array.getElem?_append, this]
  rw [Array.getElem?_eq_getElem this] at hg
  simpa using hg

set_option maxRecDepth 100000 in
set_option maxHeartbeats 2000000 in
/-- THE LAW. -/
theorem law (n : Int) (h0 : -9223372036854775808 ≤ n) (h1 : n ≤ 9223372036854775807) (w : World) (tt : TypeId) (fr : Nat × Nat) (hg : w.heap[0]? = some (.cells nmv tt fr))
    (htab : Lib.TabIs Ybad.prog w "internal/strconv.uint64pow10" .u64 Lib.pow10Tab) :
    Calls Ybad.prog 4 #[.int .i64 n] w fun e w' => e = .returned (.bool true) ∧ Grew w w' := by
  by_cases hin : 0 ≤ n ∧ n < 5
  · obtain ⟨m, rfl⟩ := Int.eq_ofNat_of_zero_le hin.1
    have hm : m < 5 := by omega
    have hS := str_in m hm w (cell_of_block hg m hm)
    have hP := parse_in m hm w tt fr hg
    obtain ⟨t, et⟩ : ∃ t, nm m = t := ⟨_, rfl⟩
    rw [et] at hS hP
    clear et hg htab
    go_enter Ybad.func4, Ybad.ntmps4
    go_wp2_with first
      | (go_at_call 6; refine hS.mono ?_; rintro _ _ ⟨rfl, rfl⟩)
      | (go_at_call 9; refine hP.mono ?_; rintro _ _ ⟨rfl, rfl⟩)
    go_ret
    exact ⟨rfl, 0, #[], rfl⟩
  · have hS := str_out n h0 h1 (by omega) w htab
    have hS' : Calls Ybad.prog 6 #[.int .i64 n] w fun e w' => ∃ s, e = .returned (.string s) ∧ (Grew w w' ∧ Calls Ybad.prog 9 #[.string s] w' fun e w2 => e = .returned (.tuple #[.int .i64 2, .bool false]) ∧ w2 = w') := by
      refine hS.mono ?_
      rintro e w' ⟨⟨s, h, hs, h80, he⟩, hG⟩
      exact ⟨s, he, hG, parse_out s h hs h80 w' tt fr (grew_block hG hg)⟩
    clear hg htab hS
    rcases (show n < 0 ∨ 5 ≤ n by omega) with ho | ho
    · clear hin
      go_enter Ybad.func4, Ybad.ntmps4
      go_wp2_with first
        | (go_at_call 6; refine hS'.mono ?_; rintro _ wG ⟨s, rfl, hG, hP⟩)
        | (go_at_call 9; refine hP.mono ?_; rintro _ _ ⟨rfl, rfl⟩)
      go_ret
      exact ⟨rfl, hG⟩
    · clear hin
      go_enter Ybad.func4, Ybad.ntmps4
      go_wp2_with first
        | (go_at_call 6; refine hS'.mono ?_; rintro _ wG ⟨s, rfl, hG, hP⟩)
        | (go_at_call 9; refine hP.mono ?_; rintro _ _ ⟨rfl, rfl⟩)
      go_ret
      exact ⟨rfl, hG⟩
end Go.Proofs.YbulkdhfmDoor
