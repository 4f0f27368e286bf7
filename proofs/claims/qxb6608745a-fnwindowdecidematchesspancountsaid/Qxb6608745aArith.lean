import Derived.Shelf.Bits.Mul64
import Derived.Laws.BitsAllLaws
namespace Go.Proofs.Qxb6608745a

/-- A product out of the halves' four. -/
theorem mul_halves (x y : Nat) : x * y = (x / 4294967296) * (y / 4294967296) * 18446744073709551616 + ((x % 4294967296) * (y / 4294967296) + (x / 4294967296) * (y % 4294967296)) * 4294967296 + (x % 4294967296) * (y % 4294967296) := by
  have hx : x = 4294967296 * (x / 4294967296) + x % 4294967296 := by omega
  have hy : y = 4294967296 * (y / 4294967296) + y % 4294967296 := by omega
  generalize x / 4294967296 = a1 at *
  generalize x % 4294967296 = a0 at *
  generalize y / 4294967296 = b1 at *
  generalize y % 4294967296 = b0 at *
  subst hx hy
  rw [Nat.add_mul, Nat.mul_add, Nat.mul_add]
  rw [show 4294967296 * a1 * (4294967296 * b1) = a1 * b1 * 18446744073709551616 by rw [Nat.mul_mul_mul_comm, Nat.mul_comm (4294967296 * 4294967296)]]
  rw [show 4294967296 * a1 * b0 = a1 * b0 * 4294967296 by rw [Nat.mul_assoc, Nat.mul_comm]]
  rw [show a0 * (4294967296 * b1) = a0 * b1 * 4294967296 by rw [Nat.mul_left_comm, Nat.mul_comm]]
  omega

theorem half_le (a b : Nat) (ha : a < 4294967296) (hb : b < 4294967296) : a * b ≤ 18446744065119617025 := by
  have h1 : a * b ≤ 4294967295 * 4294967295 := Nat.mul_le_mul (by omega) (by omega)
  omega

theorem orN (a b : Nat) (ha : a < 4294967296) (hb : b < 18446744073709551616) (hd : b % 4294967296 = 0) : bits .or .u64 (a : Int) (b : Int) = ((a + b : Nat) : Int) := by
  rw [u64_or_nat a b (by omega) hb, Nat.or_comm, nat_join 32 b a hd ha, Nat.add_comm]

/-- zzMul's two words, as it reckons them. -/
theorem zzMul_plain (x y : Nat) (hx : x < 18446744073709551616) (hy : y < 18446744073709551616) :
    (IntKind.u64.wrap (IntKind.u64.wrap (IntKind.u64.wrap (IntKind.u64.wrap ((x : Int) / 4294967296 * ((y : Int) / 4294967296)) + IntKind.u64.wrap (bits .and .u64 (x : Int) 4294967295 * ((y : Int) / 4294967296)) / 4294967296) +
      IntKind.u64.wrap ((x : Int) / 4294967296 * bits .and .u64 (y : Int) 4294967295) / 4294967296) +
      IntKind.u64.wrap (IntKind.u64.wrap (IntKind.u64.wrap (bits .and .u64 (x : Int) 4294967295 * bits .and .u64 (y : Int) 4294967295) / 4294967296 + bits .and .u64 (IntKind.u64.wrap (bits .and .u64 (x : Int) 4294967295 * ((y : Int) / 4294967296))) 4294967295) +
        bits .and .u64 (IntKind.u64.wrap ((x : Int) / 4294967296 * bits .and .u64 (y : Int) 4294967295)) 4294967295) / 4294967296) = ((x * y / 18446744073709551616 : Nat) : Int)) ∧
    (bits .or .u64 (bits .and .u64 (IntKind.u64.wrap (bits .and .u64 (x : Int) 4294967295 * bits .and .u64 (y : Int) 4294967295)) 4294967295)
      (IntKind.u64.wrap (IntKind.u64.wrap (IntKind.u64.wrap (IntKind.u64.wrap (bits .and .u64 (x : Int) 4294967295 * bits .and .u64 (y : Int) 4294967295) / 4294967296 + bits .and .u64 (IntKind.u64.wrap (bits .and .u64 (x : Int) 4294967295 * ((y : Int) / 4294967296))) 4294967295) +
        bits .and .u64 (IntKind.u64.wrap ((x : Int) / 4294967296 * bits .and .u64 (y : Int) 4294967295)) 4294967295) * 4294967296)) = ((x * y % 18446744073709551616 : Nat) : Int)) := by
  have hm := mul_halves x y
  have b00 := half_le (x % 4294967296) (y % 4294967296) (by omega) (by omega)
  have b01 := half_le (x % 4294967296) (y / 4294967296) (by omega) (by omega)
  have b10 := half_le (x / 4294967296) (y % 4294967296) (by omega) (by omega)
  have b11 := half_le (x / 4294967296) (y / 4294967296) (by omega) (by omega)
  rw [Mul64.maskN x hx, Mul64.maskN y hy]
  simp only [Mul64.divN, Mul64.mulN]
  generalize x % 4294967296 * (y % 4294967296) = p00 at *
  generalize x % 4294967296 * (y / 4294967296) = p01 at *
  generalize x / 4294967296 * (y % 4294967296) = p10 at *
  generalize x / 4294967296 * (y / 4294967296) = p11 at *
  generalize x * y = X at *
  rw [Mul64.wrapN p00 (by omega), Mul64.wrapN p01 (by omega), Mul64.wrapN p10 (by omega), Mul64.wrapN p11 (by omega), Mul64.maskN p00 (by omega), Mul64.maskN p01 (by omega), Mul64.maskN p10 (by omega)]
  simp only [Mul64.divN, Mul64.addN]
  rw [Mul64.wrapN _ (by omega : p00 / 4294967296 + p01 % 4294967296 < 18446744073709551616)]
  simp only [Mul64.addN]
  rw [Mul64.wrapN _ (by omega : p00 / 4294967296 + p01 % 4294967296 + p10 % 4294967296 < 18446744073709551616)]
  rw [Mul64.wrapN _ (by omega : p11 + p01 / 4294967296 < 18446744073709551616)]
  simp only [Mul64.divN, Mul64.addN]
  rw [Mul64.wrapN _ (by omega : p11 + p01 / 4294967296 + p10 / 4294967296 < 18446744073709551616)]
  simp only [Mul64.addN]
  rw [Mul64.wrapN _ (by omega : p11 + p01 / 4294967296 + p10 / 4294967296 + (p00 / 4294967296 + p01 % 4294967296 + p10 % 4294967296) / 4294967296 < 18446744073709551616)]
  rw [show (((p00 / 4294967296 + p01 % 4294967296 + p10 % 4294967296 : Nat) : Int) * 4294967296) = (((p00 / 4294967296 + p01 % 4294967296 + p10 % 4294967296) * 4294967296 : Nat) : Int) by omega]
  rw [Mul64.wrapM]
  rw [orN _ _ (by omega) (by omega) (by omega)]
  constructor <;> omega
end Go.Proofs.Qxb6608745a
