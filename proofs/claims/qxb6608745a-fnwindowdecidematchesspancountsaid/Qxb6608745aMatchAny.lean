import Derived.Test.Qxb6608745aMatch
import Derived.SliceStrings
namespace Go.Proofs.Qxb6608745a
open Go.RowKit
set_option linter.unusedVariables false

theorem zzBytes_long (x y z : Value) (a : Option Addr) (n cap : Nat) (hn : 1048576 < n) (w : World) :
    Calls Try.prog 8 #[x, y, z, .slice a n cap] w fun e w' => e = .returned (.bool false) ∧ w' = w := by
  have h1 : decide ((1048576 : Int) < (n : Int)) = true := decide_eq_true (by omega)
  have h2 : decide (1048576 < n) = true := decide_eq_true (by omega)
  go_enter Try.func8, Try.ntmps8
  go_wp2
  go_ret
  exact ⟨rfl, rfl⟩

theorem zzBytes_fits (x y z : Value) (a : Option Addr) (n cap : Nat) (hn : n ≤ 1048576) (w : World) :
    Calls Try.prog 8 #[x, y, z, .slice a n cap] w fun e w' => e = .returned (.bool true) ∧ w' = w := by
  have h1 : decide ((1048576 : Int) < (n : Int)) = false := decide_eq_false (by omega)
  have h2 : decide (1048576 < n) = false := decide_eq_false (by omega)
  go_enter Try.func8, Try.ntmps8
  go_wp2
  go_ret
  exact ⟨rfl, rfl⟩

/-- Out of its bounds: true at once. -/
theorem match_out (n L S : Int) (a : Option Addr) (len cap : Nat) (h : 4096 < len ∨ n < 0 ∨ S < 1 ∨ L < S) (w : World) :
    Calls Try.prog 5 #[.int .i64 n, .int .i64 L, .int .i64 S, .slice a len cap] w fun e w' => e = .returned (.bool true) ∧ Below w.heap.size w w' := by
  by_cases h0 : 1048576 < len
  · clear h
    go_enter Try.func5, Try.ntmps5
    go_wp2_with fail
    refine (zzBytes_long _ _ _ a len cap h0 w).mono ?_
    rintro e w1 ⟨rfl, h1⟩
    subst w1
    go_wp2
    go_ret
    exact ⟨rfl, Below.refl _ _⟩
  have C := hideP (zzBytes_fits (.int .i64 n) (.int .i64 L) (.int .i64 S) a len cap (by omega) w)
  by_cases h1 : 4096 < len
  · have b1 : decide ((4096 : Int) < (len : Int)) = true := decide_eq_true (by omega)
    have b1' : decide (4096 < len) = true := decide_eq_true h1
    clear h
    go_enter Try.func5, Try.ntmps5
    go_wp2_with fail
    refine C.out.mono ?_
    rintro e w1 ⟨rfl, h1⟩
    subst w1
    go_wp2
    go_ret
    exact ⟨rfl, Below.refl _ _⟩
  have b1 : decide ((4096 : Int) < (len : Int)) = false := decide_eq_false (by omega)
  have b1' : decide (4096 < len) = false := decide_eq_false h1
  by_cases h3 : n < 0
  · have b3 : decide (n < 0) = true := decide_eq_true h3
    clear h
    go_enter Try.func5, Try.ntmps5
    go_wp2_with fail
    refine C.out.mono ?_
    rintro e w1 ⟨rfl, h1⟩
    subst w1
    go_wp2
    go_ret
    exact ⟨rfl, Below.refl _ _⟩
  have b3 : decide (n < 0) = false := decide_eq_false h3
  by_cases h4 : S < 1
  · have b4 : decide (S < 1) = true := decide_eq_true h4
    clear h
    go_enter Try.func5, Try.ntmps5
    go_wp2_with fail
    refine C.out.mono ?_
    rintro e w1 ⟨rfl, h1⟩
    subst w1
    go_wp2
    go_ret
    exact ⟨rfl, Below.refl _ _⟩
  have b4 : decide (S < 1) = false := decide_eq_false h4
  have h5 : L < S := by omega
  have b5 : decide (L < S) = true := decide_eq_true h5
  clear h
  go_enter Try.func5, Try.ntmps5
  go_wp2_with fail
  refine C.out.mono ?_
  rintro e w1 ⟨rfl, h1⟩
  subst w1
  go_wp2
  go_ret
  exact ⟨rfl, Below.refl _ _⟩

/-- Cells at an address, as the walk wants them. -/
theorem argRow_of {w : World} {a : Addr} {n : Nat} {f : Nat → Value} (h : ∀ i, i < n → w.cell? (a.add i) = some (f i)) : ArgRow w (some a) n f := by
  intro i hi
  obtain ⟨b, off, spot⟩ := a
  have hspot : spot = none := by simpa [Addr.add] using World.cell?_spot (h 0 (by omega))
  subst hspot
  have hc : ∀ j, j < n → w.cell? ⟨b, off + j, none⟩ = some (f j) := fun j hj => by rw [← Go.WideShapes.add_plain]; exact h j hj
  exact ⟨b, off, rfl, World.block_lt_of_cell? _ _ (hc i hi), hc⟩

theorem match_any (n L S : Int) (a : Option Addr) (ts : List Int) (cap : Nat) (hn : In n) (hL : In L) (hS : In S) (w : World)
    (hrow : ArgRow w a ts.length (fun i => .int .i64 (ts.getD i 0))) (hin : ∀ i, In (ts.getD i 0)) :
    Calls Try.prog 5 #[.int .i64 n, .int .i64 L, .int .i64 S, .slice a ts.length cap] w fun e w' => e = .returned (.bool true) ∧ Below w.heap.size w w' := by
  by_cases h : 4096 < ts.length ∨ n < 0 ∨ S < 1 ∨ L < S
  · exact match_out n L S a ts.length cap h w
  · obtain ⟨n', rfl⟩ : ∃ n' : Nat, n = n' := ⟨n.toNat, by omega⟩
    obtain ⟨L', rfl⟩ : ∃ n' : Nat, L = n' := ⟨L.toNat, by omega⟩
    obtain ⟨S', rfl⟩ : ∃ n' : Nat, S = n' := ⟨S.toNat, by omega⟩
    exact match_main n' L' S' a ts cap (by omega) (by omega) (by have := hL.2; omega) (by have := hn.2; omega) (by omega) w hrow hin
end Go.Proofs.Qxb6608745a
