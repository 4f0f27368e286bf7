import Derived.Test.Qxb6614303aProg
import Derived.Test.Qxb6614303aBits
import Derived.WalkKit
import Derived.WalkSpells
import Derived.WalkLawsBesides
namespace Go.Proofs.Qxb6614303a
open Go.RowKit
set_option linter.unusedVariables false

/-- The instant n nanoseconds after the zero time. -/
def timeV (n : Int) : Value := .agg #[.int .u64 (n % 1000000000), .int .i64 (n / 1000000000), .pointer none]

set_option maxHeartbeats 400000 in
theorem nsec_any (b : Nat) (x : Int) (w : World) (hx : 0 ≤ x) (hx2 : x < 1000000000) (h : w.cell? ⟨b, 0, none⟩ = some (.int .u64 x)) :
    Calls Try.prog 53 #[.pointer (some ⟨b, 0, none⟩)] w fun e w' => e = .returned (.int .i32 x) ∧ w' = w := by
  have hm := and_mask x hx hx2
  go_enter Try.func53, Try.ntmps53
  go_wp2
  go_ret
  exact ⟨rfl, rfl⟩

set_option maxHeartbeats 400000 in
theorem sec_any (b : Nat) (x y : Int) (w : World) (hx : 0 ≤ x) (hx2 : x < 1000000000) (h : w.cell? ⟨b, 0, none⟩ = some (.int .u64 x)) (h1 : w.cell? ⟨b, 1, none⟩ = some (.int .i64 y)) :
    Calls Try.prog 56 #[.pointer (some ⟨b, 0, none⟩)] w fun e w' => e = .returned (.int .i64 y) ∧ w' = w := by
  have hm := top_false x hx hx2
  go_enter Try.func56, Try.ntmps56
  go_wp2
  go_ret
  exact ⟨rfl, rfl⟩

set_option maxHeartbeats 400000 in
theorem addSec_any (b : Nat) (x d : Int) (w : World) (hx : 0 ≤ x) (hx2 : x < 1000000000) (hd1 : -9223372036854775808 ≤ d) (hd2 : d ≤ 9223372036854775807)
    (h : w.cell? ⟨b, 0, none⟩ = some (.int .u64 x)) (h1 : w.cell? ⟨b, 1, none⟩ = some (.int .i64 0)) (hf : w.frozen? ⟨b, 1, none⟩ = false) :
    Calls Try.prog 54 #[.pointer (some ⟨b, 0, none⟩), .int .i64 d] w fun e w' => e = .returned (.tuple #[]) ∧ w' = w.setCell ⟨b, 1, none⟩ (.int .i64 d) := by
  have hm := top_false x hx hx2
  go_enter Try.func54, Try.ntmps54
  go_wp2
  go_end0
  exact ⟨rfl, rfl⟩


set_option maxHeartbeats 400000 in
theorem add_core1 (n q r : Int) (w : World) (h1 : -9223372036854775808 ≤ n) (h2 : n ≤ 9223372036854775807) (m0 : 0 ≤ r) (m1 : r < 1000000000) (tm : n.tmod 1000000000 = r) (td : n.tdiv 1000000000 = q)
    (q0 : -9223372037 ≤ q) (q1 : q ≤ 9223372037) :
    Calls Try.prog 31 #[.agg #[.int .u64 0, .int .i64 0, .pointer none], .int .i64 n] w fun e w' => e = .returned (.agg #[.int .u64 r, .int .i64 q, .pointer none]) ∧ Below w.heap.size w w' := by
  have z : bits .and .u64 0 1073741823 = 0 := and_mask 0 (by omega) (by omega)
  have ho := or_wall r m0 m1
  have ht := top_false r m0 m1
  go_enter Try.func31, Try.ntmps31
  go_wp2_with (first
    | (go_at_call 53; refine (nsec_any _ 0 _ (by omega) (by omega) ?_).mono ?_; rotate_right; rintro e w' ⟨rfl, rfl⟩)
    | (go_at_call 54; refine (addSec_any _ r _ _ m0 m1 (by omega) (by omega) ?_ ?_ ?_).mono ?_; rotate_right; rintro e w' ⟨rfl, rfl⟩))
  · exact bodyPost_ret (v := .agg #[.int .u64 r, .int .i64 q, .pointer none]) (by simp [results, Try.results31, go_sem]) rfl ⟨rfl, ((Below.refl _ _).alloc (Nat.le_refl _) _).alloc (by simp) _⟩
  all_goals go_simp

set_option maxHeartbeats 400000 in
theorem add_core2 (n q r : Int) (w : World) (m0 : 0 < r) (m1 : r < 1000000000) (tm : n.tmod 1000000000 = r - 1000000000) (td : n.tdiv 1000000000 = q + 1)
    (q0 : -9223372037 ≤ q) (q1 : q ≤ 9223372037) :
    Calls Try.prog 31 #[.agg #[.int .u64 0, .int .i64 0, .pointer none], .int .i64 n] w fun e w' => e = .returned (.agg #[.int .u64 r, .int .i64 q, .pointer none]) ∧ Below w.heap.size w w' := by
  have z : bits .and .u64 0 1073741823 = 0 := and_mask 0 (by omega) (by omega)
  have ho := or_wall r (by omega) m1
  have ht := top_false r (by omega) m1
  go_enter Try.func31, Try.ntmps31
  go_wp2_with (first
    | (go_at_call 53; refine (nsec_any _ 0 _ (by omega) (by omega) ?_).mono ?_; rotate_right; rintro e w' ⟨rfl, rfl⟩)
    | (go_at_call 54; refine (addSec_any _ r _ _ (by omega) m1 (by omega) (by omega) ?_ ?_ ?_).mono ?_; rotate_right; rintro e w' ⟨rfl, rfl⟩))
  · exact bodyPost_ret (v := .agg #[.int .u64 r, .int .i64 q, .pointer none]) (by simp [results, Try.results31, go_sem]) rfl ⟨rfl, ((Below.refl _ _).alloc (Nat.le_refl _) _).alloc (by simp) _⟩
  all_goals go_simp

theorem add_any (n : Int) (w : World) (h1 : -9223372036854775808 ≤ n) (h2 : n ≤ 9223372036854775807) :
    Calls Try.prog 31 #[.agg #[.int .u64 0, .int .i64 0, .pointer none], .int .i64 n] w fun e w' => e = .returned (timeV n) ∧ Below w.heap.size w w' := by
  have tm := tmod_form n
  have td := tdiv_form n
  by_cases hc : 0 ≤ n ∨ n % 1000000000 = 0
  · rw [if_pos hc] at tm td
    exact add_core1 n _ _ w h1 h2 (by omega) (by omega) tm td (by omega) (by omega)
  · rw [if_neg hc] at tm td
    exact add_core2 n _ _ w (by omega) (by omega) tm td (by omega) (by omega)

theorem timeV_cells (n : Int) : timeV n = .agg #[.int .u64 (n % 1000000000), .int .i64 (n / 1000000000), .pointer none] := rfl

set_option maxHeartbeats 400000 in
theorem durationTime_any (n : Int) (w : World) (h1 : -9223372036854775808 ≤ n) (h2 : n ≤ 9223372036854775807) :
    Calls Try.prog 20 #[.int .i64 n] w fun e w' => e = .returned (timeV n) ∧ Below w.heap.size w w' := by
  have hc := fun W => add_any n W h1 h2
  simp only [timeV_cells] at hc ⊢
  generalize n % 1000000000 = r at *
  generalize n / 1000000000 = q at *
  go_enter Try.func20, Try.ntmps20
  go_wp2_with fail
  refine (hc _).mono ?_
  rintro e w1 ⟨rfl, hb⟩
  have hbc := hb.block w.heap.size (by simp)
  have hcell : ∀ o, w1.cell? ⟨w.heap.size, o, none⟩ = (w.alloc (.cells #[.int .u64 0, .int .i64 0, .pointer none] 48)).cell? ⟨w.heap.size, o, none⟩ := fun o => hb.cell (p := ⟨w.heap.size, o, none⟩) (by simp)
  have hfro : ∀ o, w1.frozen? ⟨w.heap.size, o, none⟩ = (w.alloc (.cells #[.int .u64 0, .int .i64 0, .pointer none] 48)).frozen? ⟨w.heap.size, o, none⟩ := fun o => hb.frozen (p := ⟨w.heap.size, o, none⟩) (by simp)
  go_wp2
  exact bodyPost_ret (v := .agg #[.int .u64 r, .int .i64 q, .pointer none]) (by simp [results, Try.results20, go_sem, hcell]) rfl
    ⟨rfl, (((((Below.refl _ _).alloc (Nat.le_refl _) _).trans (hb.mono (by simp))).setCell (Nat.le_refl _) _).setCell (Nat.le_refl _) _).setCell (Nat.le_refl _) _⟩

set_option maxHeartbeats 400000 in
theorem compare_ne (x1 y1 x2 y2 : Int) (w : World) (a1 : 0 ≤ x1) (a2 : x1 < 1000000000) (b1 : 0 ≤ x2) (b2 : x2 < 1000000000) (r : Int)
    (h : (y1 < y2 ∧ r = -1) ∨ (y2 < y1 ∧ r = 1)) :
    Calls Try.prog 34 #[.agg #[.int .u64 x1, .int .i64 y1, .pointer none], .agg #[.int .u64 x2, .int .i64 y2, .pointer none]] w fun e w' => e = .returned (.int .i64 r) ∧ w' = (w.alloc (.cells #[.int .u64 x1, .int .i64 y1, .pointer none] 48)).alloc (.cells #[.int .u64 x2, .int .i64 y2, .pointer none] 48) := by
  have ht := and2_top_false x1 x2 a1 a2 b1 b2
  rcases h with ⟨h, rfl⟩ | ⟨h, rfl⟩
  all_goals
    go_enter Try.func34, Try.ntmps34
    go_wp2_with fail
    refine (sec_any _ x1 y1 _ a1 a2 (by go_simp) (by go_simp)).mono ?_
    rintro e w1 ⟨rfl, rfl⟩
    go_wp2_with fail
    refine (sec_any _ x2 y2 _ b1 b2 (by go_simp) (by go_simp)).mono ?_
    rintro e w1 ⟨rfl, rfl⟩
    go_wp2
    go_ret
    exact ⟨rfl, rfl⟩

set_option maxHeartbeats 400000 in
theorem compare_eq (x1 x2 y : Int) (w : World) (a1 : 0 ≤ x1) (a2 : x1 < 1000000000) (b1 : 0 ≤ x2) (b2 : x2 < 1000000000) (r : Int)
    (h : (x1 < x2 ∧ r = -1) ∨ (x2 < x1 ∧ r = 1) ∨ (x1 = x2 ∧ r = 0)) :
    Calls Try.prog 34 #[.agg #[.int .u64 x1, .int .i64 y, .pointer none], .agg #[.int .u64 x2, .int .i64 y, .pointer none]] w fun e w' => e = .returned (.int .i64 r) ∧ w' = (w.alloc (.cells #[.int .u64 x1, .int .i64 y, .pointer none] 48)).alloc (.cells #[.int .u64 x2, .int .i64 y, .pointer none] 48) := by
  have ht := and2_top_false x1 x2 a1 a2 b1 b2
  rcases h with h | h | ⟨h, hr⟩
  rotate_right
  · subst h hr
    go_enter Try.func34, Try.ntmps34
    go_wp2_with fail
    refine (sec_any _ x1 y _ a1 a2 (by go_simp) (by go_simp)).mono ?_
    rintro e w1 ⟨rfl, rfl⟩
    go_wp2_with fail
    refine (sec_any _ x1 y _ b1 b2 (by go_simp) (by go_simp)).mono ?_
    rintro e w1 ⟨rfl, rfl⟩
    go_wp2_with fail
    refine (nsec_any _ x1 _ a1 a2 (by go_simp)).mono ?_
    rintro e w1 ⟨rfl, rfl⟩
    go_wp2_with fail
    refine (nsec_any _ x1 _ b1 b2 (by go_simp)).mono ?_
    rintro e w1 ⟨rfl, rfl⟩
    go_wp2
    go_ret
    exact ⟨rfl, rfl⟩
  all_goals
    obtain ⟨h, rfl⟩ := h
    go_enter Try.func34, Try.ntmps34
    go_wp2_with fail
    refine (sec_any _ x1 y _ a1 a2 (by go_simp) (by go_simp)).mono ?_
    rintro e w1 ⟨rfl, rfl⟩
    go_wp2_with fail
    refine (sec_any _ x2 y _ b1 b2 (by go_simp) (by go_simp)).mono ?_
    rintro e w1 ⟨rfl, rfl⟩
    go_wp2_with fail
    refine (nsec_any _ x1 _ a1 a2 (by go_simp)).mono ?_
    rintro e w1 ⟨rfl, rfl⟩
    go_wp2_with fail
    refine (nsec_any _ x2 _ b1 b2 (by go_simp)).mono ?_
    rintro e w1 ⟨rfl, rfl⟩
    go_wp2
    go_ret
    exact ⟨rfl, rfl⟩

/-- What Compare says of two instants. -/
def cmpI (n m : Int) : Int := if n < m then -1 else if m < n then 1 else 0

theorem compare_any (n m : Int) (w : World) :
    Calls Try.prog 34 #[timeV n, timeV m] w fun e w' => e = .returned (.int .i64 (cmpI n m)) ∧ ∃ o1 o2, w' = (w.alloc o1).alloc o2 := by
  simp only [timeV_cells]
  by_cases he : n / 1000000000 = m / 1000000000
  · rw [he]
    refine (compare_eq _ _ _ w (by omega) (by omega) (by omega) (by omega) (cmpI n m) ?_).mono fun e w' ⟨h1, h2⟩ => ⟨h1, _, _, h2⟩
    unfold cmpI; split
    · exact Or.inl ⟨by omega, rfl⟩
    · split
      · exact Or.inr (Or.inl ⟨by omega, rfl⟩)
      · exact Or.inr (Or.inr ⟨by omega, rfl⟩)
  · refine (compare_ne _ _ _ _ w (by omega) (by omega) (by omega) (by omega) (cmpI n m) ?_).mono fun e w' ⟨h1, h2⟩ => ⟨h1, _, _, h2⟩
    unfold cmpI; split
    · exact Or.inl ⟨by omega, rfl⟩
    · rw [if_pos (by omega)]; exact Or.inr ⟨by omega, rfl⟩
end Go.Proofs.Qxb6614303a
