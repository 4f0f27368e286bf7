import Derived.Test.Qxb6608745aProg
import Derived.Shelf.Small.Bits
import Derived.Shelf.Bits.Mul64
import Derived.Laws.Externs
import Derived.WalkKit
import Derived.WalkSpells
import Derived.WalkLawsBesides
namespace Go.Proofs.Qxb6608745a
open Go.Shelf Go.RowKit
set_option linter.unusedVariables false

theorem hideP {p : Prop} (h : p) : Hid p := h

def lz_ren : Go.Shelf.Ren := ⟨fun | 134 => 32 | 129 => 34 | n => n, fun | 53 => 43 | 3 => 3 | 4 => 4 | 46 => 51 | 5 => 5 | 9 => 9 | n => n, fun | n => n⟩
theorem lzLaid : Go.Proofs.Lays.n134 Try.prog lz_ren := {
  mixed := by kernel_rfl,
  f129 := Try.func34.trans (congrArg some (by kernel_rfl)),
  f134 := Try.func32.trans (congrArg some (by kernel_rfl)),
  t3 := Try.underlying3,
  a3 := Try.isAgg3,
  z3 := Try.sizeOf3,
  v3 := Try.zeroValue3,
  t4 := Try.underlying4,
  a4 := Try.isAgg4,
  z4 := Try.sizeOf4,
  v4 := Try.zeroValue4,
  t5 := Try.underlying5,
  a5 := Try.isAgg5,
  z5 := Try.sizeOf5,
  v5 := Try.zeroValue5,
  t9 := Try.underlying9,
  a9 := Try.isAgg9,
  z9 := Try.sizeOf9,
  v9 := Try.zeroValue9,
  t46 := Try.underlying51,
  a46 := Try.isAgg51,
  z46 := Try.sizeOf51,
  v46 := Try.zeroValue51,
  t53 := Try.underlying43,
  a53 := Try.isAgg43,
  z53 := Try.sizeOf43,
  v53 := Try.zeroValue43 }

def mul_ren : Go.Shelf.Ren := ⟨fun | 264 => 23 | n => n, fun | 53 => 43 | 46 => 51 | n => n, fun | n => n⟩
theorem mulLaid : Go.Proofs.Lays.n264 Try.prog mul_ren := {
  mixed := by kernel_rfl,
  f264 := Try.func23.trans (congrArg some (by kernel_rfl)),
  t46 := Try.underlying51,
  a46 := Try.isAgg51,
  z46 := Try.sizeOf51,
  v46 := Try.zeroValue51,
  t53 := Try.underlying43,
  a53 := Try.isAgg43,
  z53 := Try.sizeOf43,
  v53 := Try.zeroValue43 }


theorem mul64 (x y : Nat) (hx : x < 18446744073709551616) (hy : y < 18446744073709551616) (w : World) :
    Calls Try.prog 23 #[.int .u64 x, .int .u64 y] w fun e w' => e = .returned (.tuple #[.int .u64 ((x * y / 18446744073709551616 : Nat) : Int), .int .u64 ((x * y % 18446744073709551616 : Nat) : Int)]) ∧ w' = w := by
  have h := Any.bits_Mul64 mulLaid x y hx hy w
  change Calls Try.prog 23 _ _ _ at h
  exact h

theorem lz64 (x : Nat) (w : World) (hx : x < 18446744073709551616) :
    Calls Try.prog 32 #[.int .u64 x] w fun e w' => e = .returned (.int .i64 (64 - (Lib.bitLen x : Int))) ∧ w' = w := by
  have h := Any.bits_LeadingZeros64 lzLaid x w (by omega) (by omega)
  change Calls Try.prog 32 _ _ _ at h
  exact h

theorem add64 (x y : Nat) (hx : x < 18446744073709551616) (hy : y < 18446744073709551616) (w : World) : (callFunc 25 #[.int .u64 x, .int .u64 y, .int .u64 0]).run Try.prog w =
    .ok (.value (.tuple #[.int .u64 (((x + y) % 18446744073709551616 : Nat) : Int), .int .u64 (((x + y) / 18446744073709551616 : Nat) : Int)])) w := by
  rw [run_callFunc_extern Try.func25 (by kernel_rfl) (by kernel_rfl) (by kernel_rfl) (e := add64Entry) (by kernel_rfl), run_add64 x y 0 (by omega) (by omega) (by omega) (by omega)]
  simp only [Result.andThen]
  congr 5 <;> omega
end Go.Proofs.Qxb6608745a
