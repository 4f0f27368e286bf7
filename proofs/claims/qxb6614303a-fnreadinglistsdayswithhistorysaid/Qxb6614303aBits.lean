import Derived.Laws.BitsAllLaws
import Derived.WalkKit
namespace Go.Proofs.Qxb6614303a

theorem and_mask (x : Int) (h1 : 0 ≤ x) (h2 : x < 1000000000) : bits .and .u64 x 1073741823 = x := by
  rw [u64_and x 1073741823 h1 (by omega) (by omega) (by omega)]
  rw [show (1073741823 : Int).toNat = 2 ^ 30 - 1 from rfl, Nat.and_two_pow_sub_one_eq_mod]
  omega

theorem and_top (x : Int) (h1 : 0 ≤ x) (h2 : x < 1000000000) : bits .and .u64 x 9223372036854775808 = 0 := by
  rw [u64_and x 9223372036854775808 h1 (by omega) (by omega) (by omega)]
  rw [show (9223372036854775808 : Int).toNat = 2 ^ 63 from rfl, nat_bit]
  have : x.toNat / 2 ^ 63 = 0 := Nat.div_eq_of_lt (by omega)
  rw [this]; rfl

theorem top_false (x : Int) (h1 : 0 ≤ x) (h2 : x < 1000000000) : (bits .and .u64 x 9223372036854775808 != 0) = false := by
  rw [and_top x h1 h2]; rfl

theorem and2_top_false (x y : Int) (h1 : 0 ≤ x) (h2 : x < 1000000000) (h3 : 0 ≤ y) (h4 : y < 1000000000) : (bits .and .u64 (bits .and .u64 x y) 9223372036854775808 != 0) = false := by
  have e : bits .and .u64 x y = ((x.toNat &&& y.toNat : Nat) : Int) := u64_and x y h1 (by omega) h3 (by omega)
  have l : x.toNat &&& y.toNat ≤ x.toNat := Nat.and_le_left
  rw [e]
  exact top_false _ (by omega) (by omega)

theorem or_wall (x : Int) (h1 : 0 ≤ x) (h2 : x < 1000000000) : bits .or .u64 (bits .andNot .u64 0 1073741823) x = x := by
  rw [u64_andNot 0 1073741823 (by omega) (by omega) (by omega) (by omega)]
  rw [show (0 : Int).toNat = 0 from rfl, Nat.zero_and]
  rw [show ((0 : Nat) : Int) = 0 from rfl, u64_or 0 x (by omega) (by omega) h1 (by omega)]
  rw [show (0 : Int).toNat = 0 from rfl, Nat.zero_or]
  omega

theorem tmod_form (n : Int) : n.tmod 1000000000 = if 0 ≤ n ∨ n % 1000000000 = 0 then n % 1000000000 else n % 1000000000 - 1000000000 := by
  have h : n = 1000000000 * n.tdiv 1000000000 + n.tmod 1000000000 := (Int.mul_tdiv_add_tmod n 1000000000).symm
  by_cases h0 : 0 ≤ n
  · rw [if_pos (Or.inl h0), Int.tmod_eq_emod_of_nonneg h0]
  · have a1 : -1000000000 < n.tmod 1000000000 := by
      have := Int.lt_tmod_of_pos n (b := 1000000000) (by omega); omega
    have a2 : n.tmod 1000000000 ≤ 0 := by have := Int.neg_tmod n 1000000000; rw [Int.tmod_eq_emod_of_nonneg (by omega)] at this; omega
    split <;> omega
theorem tdiv_form (n : Int) : n.tdiv 1000000000 = if 0 ≤ n ∨ n % 1000000000 = 0 then n / 1000000000 else n / 1000000000 + 1 := by
  have h : n = 1000000000 * n.tdiv 1000000000 + n.tmod 1000000000 := (Int.mul_tdiv_add_tmod n 1000000000).symm
  have m := tmod_form n
  split at m <;> rename_i hc <;> simp only [hc, if_true, if_false] <;> omega
end Go.Proofs.Qxb6614303a
