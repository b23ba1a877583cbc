/- The plain bit laws of LawS5419BWhole. -/
import Derived.Test.YbulkdheyWalk
import Derived.Laws.BitsAllLaws
namespace Go.Proofs.Ybulkdhey

theorem and_lt (n m : Nat) (h : n < 18446744073709551616) : n &&& m < 18446744073709551616 := Nat.lt_of_le_of_lt Nat.and_le_left h

theorem an (n : Nat) (c : Nat) (hn : n < 18446744073709551616) (hc : c < 18446744073709551616) : bits .andNot .u64 (n : Int) (c : Int) = ((n &&& (18446744073709551615 - c) : Nat) : Int) := u64_andNot_nat n c hn hc

theorem clear3 (n : Nat) (hn : n < 18446744073709551616) : bits .andNot .u64 (bits .andNot .u64 (bits .andNot .u64 (n : Int) 8) 2048) 4096 = bits .andNot .u64 (n : Int) 6152 := by
  have e1 := an n 8 hn (by decide)
  have e2 := an (n &&& (18446744073709551615 - 8)) 2048 (and_lt _ _ hn) (by decide)
  have e3 := an (n &&& (18446744073709551615 - 8) &&& (18446744073709551615 - 2048)) 4096 (and_lt _ _ (and_lt _ _ hn)) (by decide)
  have e4 := an n 6152 hn (by decide)
  refine (congrArg (fun x => bits .andNot .u64 (bits .andNot .u64 x 2048) 4096) e1).trans ?_
  refine (congrArg (fun x => bits .andNot .u64 x 4096) e2).trans ?_
  refine e3.trans (Eq.trans ?_ e4.symm)
  rw [Nat.and_assoc, Nat.and_assoc, show (18446744073709551615 - 8 &&& (18446744073709551615 - 2048 &&& 18446744073709551615 - 4096)) = 18446744073709551615 - 6152 from by decide]

theorem or0 (n : Nat) (hn : n < 18446744073709551616) : bits .or .u64 (bits .andNot .u64 (n : Int) 6152) 0 = bits .andNot .u64 (n : Int) 6152 := by
  have e4 := an n 6152 hn (by decide)
  have e5 := u64_or_nat (n &&& (18446744073709551615 - 6152)) 0 (and_lt _ _ hn) (by decide)
  refine (congrArg (fun x => bits .or .u64 x 0) e4).trans ?_
  refine e5.trans (Eq.trans ?_ e4.symm)
  rw [Nat.or_zero]

theorem bit7 (n : Nat) (hn : n < 18446744073709551616) : (bits .and .u64 (n : Int) 128 != 0) = (bits .and .u64 ((n : Int) / 128) 1 == 1) := by
  have e1 : bits .and .u64 (n : Int) 128 = ((n / 128 % 2 * 128 : Nat) : Int) := (u64_and_nat n 128 hn (by decide)).trans (by rw [show (128 : Nat) = 2 ^ 7 from rfl, nat_bit])
  have e2 : bits .and .u64 ((n : Int) / 128) 1 = ((n / 128 % 2 : Nat) : Int) := (u64_and_nat (n / 128) 1 (by omega) (by decide)).trans (by rw [nat_mask1])
  rw [e1, e2]
  have h := Nat.mod_lt (n / 128) (show 0 < 2 by decide)
  rcases (show n / 128 % 2 = 0 ∨ n / 128 % 2 = 1 by omega) with h | h <;> rw [h] <;> rfl

theorem mppEq (n : Nat) (hn : n < 18446744073709551616) : mpp (n : Int) = bits .and .u64 ((n : Int) / 2048) 3 % 256 := by
  have e1 : bits .and .u64 (n : Int) 6144 = ((n &&& 6144 : Nat) : Int) := u64_and_nat n 6144 hn (by decide)
  have e2 : bits .and .u64 ((n : Int) / 2048) 3 = ((n / 2048 &&& 3 : Nat) : Int) := u64_and_nat (n / 2048) 3 (by omega) (by decide)
  unfold mpp
  rw [e1, e2]
  have e3 : (n &&& 6144) / 2048 = n / 2048 &&& 3 := by
    have := Nat.shiftRight_and_distrib (a := n) (b := 6144) (i := 11)
    rw [Nat.shiftRight_eq_div_pow, Nat.shiftRight_eq_div_pow, Nat.shiftRight_eq_div_pow] at this
    exact this
  rw [← e3]; rfl

/-- The four ways. -/
theorem mst_tt (n : Nat) (hn : n < 18446744073709551616) (h1 : (bits .and .u64 ((n : Int) / 128) 1 == 1) = true) (h2 : (bits .and .u64 ((n : Int) / 2048) 3 % 256 != 3) = true) :
    mst (n : Int) = bits .andNot .u64 (bits .or .u64 (bits .or .u64 (bits .andNot .u64 (bits .andNot .u64 (bits .andNot .u64 (n : Int) 8) 2048) 4096) 8) 128) 131072 := by
  unfold mst; rw [mppEq n hn, if_pos h2, bit7 n hn, if_pos h1, clear3 n hn]
theorem mst_tf (n : Nat) (hn : n < 18446744073709551616) (h1 : (bits .and .u64 ((n : Int) / 128) 1 == 1) = true) (h2 : (bits .and .u64 ((n : Int) / 2048) 3 % 256 != 3) = false) :
    mst (n : Int) = bits .or .u64 (bits .or .u64 (bits .andNot .u64 (bits .andNot .u64 (bits .andNot .u64 (n : Int) 8) 2048) 4096) 8) 128 := by
  unfold mst; rw [mppEq n hn, if_neg (by rw [h2]; simp), bit7 n hn, if_pos h1, clear3 n hn]
theorem mst_ft (n : Nat) (hn : n < 18446744073709551616) (h1 : (bits .and .u64 ((n : Int) / 128) 1 == 1) = false) (h2 : (bits .and .u64 ((n : Int) / 2048) 3 % 256 != 3) = true) :
    mst (n : Int) = bits .andNot .u64 (bits .or .u64 (bits .andNot .u64 (bits .andNot .u64 (bits .andNot .u64 (n : Int) 8) 2048) 4096) 128) 131072 := by
  unfold mst; rw [mppEq n hn, if_pos h2, bit7 n hn, if_neg (by rw [h1]; simp), or0 n hn, clear3 n hn]
theorem mst_ff (n : Nat) (hn : n < 18446744073709551616) (h1 : (bits .and .u64 ((n : Int) / 128) 1 == 1) = false) (h2 : (bits .and .u64 ((n : Int) / 2048) 3 % 256 != 3) = false) :
    mst (n : Int) = bits .or .u64 (bits .andNot .u64 (bits .andNot .u64 (bits .andNot .u64 (n : Int) 8) 2048) 4096) 128 := by
  unfold mst; rw [mppEq n hn, if_neg (by rw [h2]; simp), bit7 n hn, if_neg (by rw [h1]; simp), or0 n hn, clear3 n hn]
end Go.Proofs.Ybulkdhey
