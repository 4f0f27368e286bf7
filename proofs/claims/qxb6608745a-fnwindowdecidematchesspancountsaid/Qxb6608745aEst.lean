import Derived.Shelf.Small.Bits
import Derived.Lib.ItoaNum
namespace Go.Proofs.Qxb6608745a
set_option linter.unusedVariables false

/-- The estimate of one digit of the quotient, on its way down. -/
def Est (u v1 v0 a q r : Nat) : Prop := q * v1 + r = u ∧ u * 4294967296 + a < (q + 1) * (v1 * 4294967296 + v0) ∧ q ≤ 4294967297 ∧ r < 4294967296

theorem est_mul (q v1 v0 : Nat) : (q + 1) * (v1 * 4294967296 + v0) = (q * v1) * 4294967296 + q * v0 + v1 * 4294967296 + v0 := by
  rw [Nat.add_mul, Nat.mul_add, ← Nat.mul_assoc]; omega

theorem est_mul0 (q v1 v0 : Nat) : q * (v1 * 4294967296 + v0) = (q * v1) * 4294967296 + q * v0 := by
  rw [Nat.mul_add, ← Nat.mul_assoc]

theorem est_start (u v1 v0 a : Nat) (hu : u < v1 * 4294967296 + v0) (h1 : 2147483648 ≤ v1) (h1' : v1 < 4294967296) (h0 : v0 < 4294967296) (ha : a < 4294967296) :
    Est u v1 v0 a (u / v1) (u - u / v1 * v1) := by
  have e := Nat.div_add_mod u v1
  have l := Nat.mod_lt u (show 0 < v1 by omega)
  have hq : u / v1 < 4294967298 := (Nat.div_lt_iff_lt_mul (by omega)).2 (by omega)
  rw [Nat.mul_comm] at e
  unfold Est
  rw [est_mul]
  generalize u / v1 = q at *
  generalize u % v1 = r at *
  refine ⟨by omega, ?_, by omega, by omega⟩
  generalize q * v1 = X at *
  omega

theorem est_down {u v1 v0 a q r : Nat} (h : Est u v1 v0 a q r) (hu : u < v1 * 4294967296 + v0) (h1 : 2147483648 ≤ v1) (h0 : v0 < 4294967296) (ha : a < 4294967296)
    (ht : 4294967296 ≤ q ∨ 4294967296 * r + a < q * v0) : 1 ≤ q ∧ (q - 1) * v1 + (r + v1) = u ∧ u * 4294967296 + a < q * (v1 * 4294967296 + v0) ∧ q - 1 ≤ 4294967296 := by
  obtain ⟨e, b, c, d⟩ := h
  have h1q : 1 ≤ q := by
    rcases ht with h | h
    · omega
    · refine Nat.pos_of_ne_zero fun e => ?_
      subst e
      simp at h
  obtain ⟨p, rfl⟩ : ∃ p, q = p + 1 := ⟨q - 1, by omega⟩
  have m1 : (p + 1) * v1 = p * v1 + v1 := by rw [Nat.add_mul, Nat.one_mul]
  refine ⟨h1q, by simp only [Nat.add_sub_cancel]; omega, ?_, by omega⟩
  rcases ht with h | h
  · have m2 : 4294967296 * (v1 * 4294967296 + v0) ≤ (p + 1) * (v1 * 4294967296 + v0) := Nat.mul_le_mul_right _ h
    omega
  · rw [est_mul0]
    generalize (p + 1) * v1 = X at *
    generalize (p + 1) * v0 = Y at *
    omega

theorem est_next {u v1 v0 a q r : Nat} (h : Est u v1 v0 a q r) (hu : u < v1 * 4294967296 + v0) (h1 : 2147483648 ≤ v1) (h0 : v0 < 4294967296) (ha : a < 4294967296)
    (ht : 4294967296 ≤ q ∨ 4294967296 * r + a < q * v0) (hr : r + v1 < 4294967296) : Est u v1 v0 a (q - 1) (r + v1) := by
  obtain ⟨a1, a2, a3, a4⟩ := est_down h hu h1 h0 ha ht
  exact ⟨a2, by rw [Nat.sub_add_cancel a1]; exact a3, by omega, hr⟩

theorem est_is {u v1 v0 a q : Nat} (h : u * 4294967296 + a < (q + 1) * (v1 * 4294967296 + v0)) (h2 : q * (v1 * 4294967296 + v0) ≤ u * 4294967296 + a) :
    q = (u * 4294967296 + a) / (v1 * 4294967296 + v0) := by
  refine (Nat.div_eq_of_lt_le h2 ?_).symm
  exact h

theorem est_break {u v1 v0 a q r : Nat} (h : Est u v1 v0 a q r) (hu : u < v1 * 4294967296 + v0) (h1 : 2147483648 ≤ v1) (h0 : v0 < 4294967296) (ha : a < 4294967296)
    (ht : 4294967296 ≤ q ∨ 4294967296 * r + a < q * v0) (hr : 4294967296 ≤ r + v1) : q - 1 = (u * 4294967296 + a) / (v1 * 4294967296 + v0) := by
  obtain ⟨a1, a2, a3, a4⟩ := est_down h hu h1 h0 ha ht
  refine est_is (by rw [Nat.sub_add_cancel a1]; exact a3) ?_
  rw [est_mul0]
  have m : (q - 1) * v0 ≤ 4294967296 * 4294967295 := Nat.mul_le_mul a4 (by omega)
  generalize (q - 1) * v1 = X at *
  generalize (q - 1) * v0 = Y at *
  omega

theorem est_done {u v1 v0 a q r : Nat} (h : Est u v1 v0 a q r) (ht : q * v0 ≤ 4294967296 * r + a) : q = (u * 4294967296 + a) / (v1 * 4294967296 + v0) := by
  obtain ⟨e, b, c, d⟩ := h
  refine est_is b ?_
  rw [est_mul0]
  generalize q * v1 = X at *
  generalize q * v0 = Y at *
  omega

/-- Two digits make the quotient. -/
theorem two_digits (u y a1 a0 q1 q0 : Nat) (hy : 0 < y) (h1 : a1 < 4294967296) (h0 : a0 < 4294967296) (e1 : q1 = (u * 4294967296 + a1) / y) (e0 : q0 = ((u * 4294967296 + a1) % y * 4294967296 + a0) / y) :
    (u * 18446744073709551616 + (a1 * 4294967296 + a0)) / y = q1 * 4294967296 + q0 := by
  have d1 := Nat.div_add_mod (u * 4294967296 + a1) y
  rw [← e1] at d1
  have e : u * 18446744073709551616 + (a1 * 4294967296 + a0) = y * (q1 * 4294967296) + ((u * 4294967296 + a1) % y * 4294967296 + a0) := by
    rw [← Nat.mul_assoc]
    generalize (u * 4294967296 + a1) % y = R at *
    generalize y * q1 = X at *
    omega
  rw [e, Nat.mul_add_div hy, ← e0]

/-- What the shift makes of the two words. -/
theorem shift_words (hi lo y s : Nat) (hs1 : 1 ≤ s) (hs : s ≤ 63) (hlo : lo < 18446744073709551616) (hh : hi < y) (hy : y * 2 ^ s < 18446744073709551616) :
    hi * 2 ^ s + lo / 2 ^ (64 - s) < y * 2 ^ s ∧ lo / 2 ^ (64 - s) < 2 ^ s ∧
    ((hi * 2 ^ s + lo / 2 ^ (64 - s)) * 18446744073709551616 + lo * 2 ^ s % 18446744073709551616) / (y * 2 ^ s) = (hi * 18446744073709551616 + lo) / y := by
  have e64 : (18446744073709551616 : Nat) = 2 ^ (64 - s) * 2 ^ s := by rw [← Nat.pow_add, show 64 - s + s = 64 by omega]
  have hl : lo / 2 ^ (64 - s) < 2 ^ s := by
    rw [Nat.div_lt_iff_lt_mul (Nat.two_pow_pos _), Nat.mul_comm, ← e64]; exact hlo
  have hd : lo * 2 ^ s / 18446744073709551616 = lo / 2 ^ (64 - s) := by
    rw [e64, Nat.mul_div_mul_right _ _ (Nat.two_pow_pos _)]
  have h1 : (hi + 1) * 2 ^ s ≤ y * 2 ^ s := Nat.mul_le_mul_right _ hh
  rw [Nat.add_mul, Nat.one_mul] at h1
  refine ⟨by omega, hl, ?_⟩
  have dm := Nat.div_add_mod (lo * 2 ^ s) 18446744073709551616
  rw [hd] at dm
  rw [show (hi * 2 ^ s + lo / 2 ^ (64 - s)) * 18446744073709551616 + lo * 2 ^ s % 18446744073709551616 = (hi * 18446744073709551616 + lo) * 2 ^ s by
    rw [Nat.add_mul, Nat.add_mul, Nat.mul_right_comm]; omega]
  exact Nat.mul_div_mul_right _ _ (Nat.two_pow_pos _)

theorem lz_spec (y : Nat) (h1 : 1 ≤ y) (h2 : y ≤ 9223372036854775807) : ∃ s : Nat, 64 - (Lib.bitLen y : Int) = s ∧ 1 ≤ s ∧ s ≤ 63 ∧ y * 2 ^ s < 18446744073709551616 ∧ 9223372036854775808 ≤ y * 2 ^ s := by
  have hb := Lib.bitLenAux_bounds 64 y (by omega) (by omega)
  change 1 ≤ Lib.bitLen y ∧ 2 ^ (Lib.bitLen y - 1) ≤ y ∧ y < 2 ^ Lib.bitLen y at hb
  generalize Lib.bitLen y = L at *
  obtain ⟨b1, b2, b3⟩ := hb
  have hL : L - 1 < 63 := (Nat.pow_lt_pow_iff_right (a := 2) (by omega)).1 (by omega)
  refine ⟨64 - L, by omega, by omega, by omega, ?_, ?_⟩
  · have : y * 2 ^ (64 - L) < 2 ^ L * 2 ^ (64 - L) := Nat.mul_lt_mul_of_pos_right b3 (Nat.two_pow_pos _)
    rw [← Nat.pow_add, show L + (64 - L) = 64 by omega] at this
    exact this
  · have : 2 ^ (L - 1) * 2 ^ (64 - L) ≤ y * 2 ^ (64 - L) := Nat.mul_le_mul_right _ b2
    rw [← Nat.pow_add, show L - 1 + (64 - L) = 63 by omega] at this
    exact this
end Go.Proofs.Qxb6608745a
