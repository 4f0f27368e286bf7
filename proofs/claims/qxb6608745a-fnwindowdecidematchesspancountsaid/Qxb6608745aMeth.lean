import Derived.Test.Qxb6608745aSlot
import Derived.Test.Qxb6608745aDiv
namespace Go.Proofs.Qxb6608745a
open Go.RowKit
set_option linter.unusedVariables false

theorem div64N (N d : Nat) (hd : 1 ≤ d) (hd2 : d ≤ 9223372036854775807) (hN : N / 18446744073709551616 < d) (w : World) :
    Calls Try.prog 24 #[.int .u64 ((N / 18446744073709551616 : Nat) : Int), .int .u64 ((N % 18446744073709551616 : Nat) : Int), .int .u64 d] w fun e w' => QuoRet (N / d) e ∧ ∃ n, w' = w.drewN n := by
  have h := div64_any (N / 18446744073709551616) (N % 18446744073709551616) d (Nat.mod_lt _ (Nat.zero_lt_succ _)) hd hd2 hN w
  rw [Nat.div_add_mod'] at h
  exact h

theorem div64I (N d : Nat) (hd : 1 ≤ d) (hd2 : d ≤ 9223372036854775807) (hN : N / 18446744073709551616 < d) (w : World) :
    Calls Try.prog 24 #[.int .u64 ((N : Int) / 18446744073709551616), .int .u64 ((N : Int) % 18446744073709551616), .int .u64 d] w fun e w' => QuoRet (N / d) e ∧ ∃ n, w' = w.drewN n := by
  have h := div64N N d hd hd2 hN w
  rw [show ((N / 18446744073709551616 : Nat) : Int) = (N : Int) / 18446744073709551616 by omega, show ((N % 18446744073709551616 : Nat) : Int) = (N : Int) % 18446744073709551616 by omega] at h
  exact h

theorem mul_lt127 {a b : Nat} (ha : a ≤ 9223372036854775808) (hb : b ≤ 9223372036854775807) : a * b < 170141183460469231731687303715884105728 := by
  have : a * b ≤ 9223372036854775808 * 9223372036854775807 := Nat.mul_le_mul ha hb
  omega

theorem hi_lt {t S L : Nat} (ht : t ≤ 9223372036854775808) (hS : 1 ≤ S) (h : S ≤ L) : (t * S + (L - 1)) / 18446744073709551616 < L := by
  have h1 : t * S ≤ 9223372036854775808 * L := Nat.mul_le_mul ht h
  rw [Nat.div_lt_iff_lt_mul (Nat.zero_lt_succ _)]
  omega

set_option maxHeartbeats 1000000 in
theorem slotOf_pos (lb t L S : Nat) (ht : t ≤ 9223372036854775807) (hS : 1 ≤ S) (hSL : S ≤ L) (hL : L ≤ 9223372036854775807) (w : World)
    (c1 : w.cell? ⟨lb, 1, none⟩ = some (.int .i64 L)) (c2 : w.cell? ⟨lb, 2, none⟩ = some (.int .i64 S)) :
    Calls Try.prog 19 #[.pointer (some ⟨lb, 0, none⟩), .int .i64 t] w fun e w' => e = .returned (.int .i64 ((t * S / L : Nat) : Int)) ∧ ∃ n, w' = w.drewN n := by
  have hq := quo_le (t := t) (by omega : 1 ≤ L) hSL
  have hn : (decide (0 ≤ (t : Int))) = true := by simp
  have HH : Hid (t * S / 18446744073709551616 < L) := Nat.lt_of_le_of_lt (Nat.div_le_div_right (Nat.le_add_right _ _)) (hi_lt (by omega) hS hSL)
  generalize hQ : t * S / L = q at hq ⊢
  have HQ := hideP hQ
  clear hQ
  go_enter Try.func19, Try.ntmps19
  go_wp2_with fail
  refine (mul64 t S (by omega) (by omega) _).mono ?_
  rintro e w1 ⟨rfl, h1⟩
  subst w1
  go_wp2_with fail
  refine (div64N (t * S) L (by omega) hL HH.out _).mono ?_
  rintro e w1 ⟨⟨rr, rfl⟩, m, h1⟩
  rw [HQ.out]
  have HM := hideP h1
  clear h1
  go_wp2
  go_ret
  exact ⟨rfl, m, HM.out⟩

/-- Add64's two words: the sum's low word, and the carry. -/
theorem addN (N L : Nat) (hL1 : 1 ≤ L) (hL : L ≤ 9223372036854775807) (w : World) : ∃ c : Nat, c ≤ 1 ∧ N / 18446744073709551616 + c = (N + (L - 1)) / 18446744073709551616 ∧
    (callFunc 25 #[.int .u64 ((N : Int) % 18446744073709551616), .int .u64 ((L : Int) - 1), .int .u64 0]).run Try.prog w =
      .ok (.value (.tuple #[.int .u64 (((N + (L - 1)) % 18446744073709551616 : Nat) : Int), .int .u64 (c : Int)])) w := by
  have h := add64 (N % 18446744073709551616) (L - 1) (Nat.mod_lt _ (Nat.zero_lt_succ _)) (by omega) w
  refine ⟨(N % 18446744073709551616 + (L - 1)) / 18446744073709551616, by omega, by omega, ?_⟩
  rw [show ((N : Int) % 18446744073709551616) = ((N % 18446744073709551616 : Nat) : Int) by omega, show ((L : Int) - 1) = ((L - 1 : Nat) : Int) by omega, h,
    show (N % 18446744073709551616 + (L - 1)) % 18446744073709551616 = (N + (L - 1)) % 18446744073709551616 by omega]

set_option maxHeartbeats 1000000 in
theorem slotOf_neg (lb t L S : Nat) (ht1 : 1 ≤ t) (ht : t ≤ 9223372036854775808) (hS : 1 ≤ S) (hSL : S ≤ L) (hL : L ≤ 9223372036854775807) (w : World)
    (c1 : w.cell? ⟨lb, 1, none⟩ = some (.int .i64 L)) (c2 : w.cell? ⟨lb, 2, none⟩ = some (.int .i64 S)) :
    Calls Try.prog 19 #[.pointer (some ⟨lb, 0, none⟩), .int .i64 (-(t : Int))] w fun e w' => e = .returned (.int .i64 (-(((t * S + (L - 1)) / L : Nat) : Int))) ∧ ∃ n, w' = w.drewN n := by
  have hc := ceil_le (t := t) (by omega : 1 ≤ L) hSL
  have hn : (decide (0 ≤ -(t : Int))) = false := decide_eq_false (by omega)
  have HH := hideP (hi_lt ht hS hSL)
  generalize hQ : (t * S + (L - 1)) / L = q at hc ⊢
  have HQ := hideP hQ
  have HT := hideP ht
  have HC := hideP hc
  have HL := hideP hL
  have HN := hideP (mul_lt127 ht (Nat.le_trans hSL hL))
  have hL1 : 1 ≤ L := by omega
  clear hQ
  go_enter Try.func19, Try.ntmps19
  go_wp2_with fail
  rw [negneg t ht]
  refine (mul64 t S (by omega) (by omega) _).mono ?_
  rintro e w1 ⟨rfl, h1⟩
  subst w1
  generalize t * S = N at HH HQ HN ⊢
  go_wp2_with fail
  obtain ⟨c, hc0, hc1, hadd⟩ := addN N L hL1 hL w
  rw [hadd]
  clear hadd
  have HC1 := hideP hc1
  clear hc1
  have HW : Hid (IntKind.u64.wrap ((N : Int) / 18446744073709551616 + (c : Int)) = ((N + (L - 1) : Nat) : Int) / 18446744073709551616) := by
    show _ = _
    have h1 := HC1.out
    rw [IntKind.wrap_u64]
    have := HN.out
    omega
  generalize N + (L - 1) = M at HH HQ HC1 HW ⊢
  have hL64 : L < 18446744073709551616 := by omega
  clear hc0 hL ht hc hSL
  go_wp2_with fail
  rw [HW.out]
  refine (div64I M L hL1 HL.out HH.out _).mono ?_
  rintro e w1 ⟨⟨rr, rfl⟩, m, h1⟩
  rw [HQ.out]
  have HM := hideP h1
  have HF : Hid (wrap64 (-wrap64 (q : Int)) = -(q : Int)) := negI q (by have := HC.out; have := HT.out; omega)
  clear h1
  go_wp2
  go_ret
  exact ⟨congrArg (fun x => Ending.returned (Value.int .i64 x)) HF.out, m, HM.out⟩

/-- What a slot's start comes to, as the method says it. -/
def StartRet (c : Nat) (e : Ending) : Prop := ∃ (x : Int) (b : Bool), e = .returned (.tuple #[.int .i64 x, .bool b]) ∧ (c ≤ 9223372036854775807 → b = true ∧ x = c) ∧ (9223372036854775807 < c → b = false)

set_option maxHeartbeats 1000000 in
theorem slotStart_pos (lb k L S : Nat) (hk : k ≤ 9223372036854775807) (hS : 1 ≤ S) (hS2 : S ≤ 9223372036854775807) (hL : L ≤ 9223372036854775807)
    (hc : (k * L + (S - 1)) / S < 18446744073709551616) (w : World)
    (c1 : w.cell? ⟨lb, 1, none⟩ = some (.int .i64 L)) (c2 : w.cell? ⟨lb, 2, none⟩ = some (.int .i64 S)) :
    Calls Try.prog 33 #[.pointer (some ⟨lb, 0, none⟩), .int .i64 k] w fun e w' => StartRet ((k * L + (S - 1)) / S) e ∧ ∃ n, w' = w.drewN n := by
  have hn : (decide (0 ≤ (k : Int))) = true := by simp
  have HH : Hid ((k * L + (S - 1)) / 18446744073709551616 < S) := by
    show _ < _
    rw [Nat.div_lt_iff_lt_mul (Nat.zero_lt_succ _), Nat.mul_comm S, ← Nat.div_lt_iff_lt_mul hS]
    exact hc
  have HN := hideP (mul_lt126 hk hL)
  generalize hQ : (k * L + (S - 1)) / S = q at hc ⊢
  have HQ := hideP hQ
  have HC := hideP hc
  have HS2 := hideP hS2
  clear hQ
  go_enter Try.func33, Try.ntmps33
  go_wp2_with fail
  refine (mul64 k L (by omega) (by omega) _).mono ?_
  rintro e w1 ⟨rfl, h1⟩
  subst w1
  generalize k * L = N at HH HQ HN ⊢
  go_wp2_with fail
  obtain ⟨c, hc0, hc1, hadd⟩ := addN N S hS hS2 w
  rw [hadd]
  clear hadd
  have HC1 := hideP hc1
  clear hc1
  have HW : Hid (IntKind.u64.wrap ((N : Int) / 18446744073709551616 + (c : Int)) = ((N + (S - 1) : Nat) : Int) / 18446744073709551616) := by
    show _ = _
    have h1 := HC1.out
    rw [IntKind.wrap_u64]
    have := HN.out
    omega
  generalize N + (S - 1) = M at HH HQ HC1 HW ⊢
  have hS64 : S < 18446744073709551616 := by omega
  clear hc0 hL hk hc hS2
  go_wp2_with fail
  rw [HW.out]
  refine (div64I M S hS HS2.out HH.out _).mono ?_
  rintro e w1 ⟨⟨rr, rfl⟩, m, h1⟩
  rw [HQ.out]
  have HM := hideP h1
  clear h1
  go_wp2
  go_ret2
  refine ⟨⟨_, _, rfl, fun h => ⟨decide_eq_true (by omega), ?_⟩, fun h => decide_eq_false (by omega)⟩, m, HM.out⟩
  unfold wrap64
  omega

set_option maxHeartbeats 1000000 in
theorem slotStart_neg (lb k L S : Nat) (hk1 : 1 ≤ k) (hk : k ≤ 9223372036854775808) (hS : 1 ≤ S) (hS2 : S ≤ 9223372036854775807) (hL : L ≤ 9223372036854775807)
    (hc : k * L / S < 18446744073709551616) (w : World)
    (c1 : w.cell? ⟨lb, 1, none⟩ = some (.int .i64 L)) (c2 : w.cell? ⟨lb, 2, none⟩ = some (.int .i64 S)) :
    Calls Try.prog 33 #[.pointer (some ⟨lb, 0, none⟩), .int .i64 (-(k : Int))] w fun e w' => e = .returned (.tuple #[.int .i64 (startN (k * L / S)), .bool true]) ∧ ∃ n, w' = w.drewN n := by
  have hn : (decide (0 ≤ -(k : Int))) = false := decide_eq_false (by omega)
  have HH : Hid (k * L / 18446744073709551616 < S) := by
    show _ < _
    rw [Nat.div_lt_iff_lt_mul (Nat.zero_lt_succ _), Nat.mul_comm S, ← Nat.div_lt_iff_lt_mul hS]
    exact hc
  generalize hQ : k * L / S = q at hc ⊢
  obtain ⟨res, hres⟩ : ∃ res, res = startN q := ⟨_, rfl⟩
  rw [← hres]
  have HV := hideP hres
  have HQ := hideP hQ
  have HC := hideP hc
  have HS2 := hideP hS2
  clear hQ hres
  go_enter Try.func33, Try.ntmps33
  go_wp2_with fail
  rw [negneg k hk]
  refine (mul64 k L (by omega) (by omega) _).mono ?_
  rintro e w1 ⟨rfl, h1⟩
  subst w1
  have hS64 : S < 18446744073709551616 := by omega
  clear hk hc hS2 hL
  generalize k * L = N at HH HQ ⊢
  go_wp2_with fail
  refine (div64I N S hS HS2.out HH.out _).mono ?_
  rintro e w1 ⟨⟨rr, rfl⟩, m, h1⟩
  rw [HQ.out]
  have HM := hideP h1
  clear h1
  by_cases hb : q < 9223372036854775808
  · have hbb : decide ((9223372036854775808 : Int) ≤ (q : Int)) = false := decide_eq_false (by omega)
    have HF : Hid (-(q : Int) = res) := by
      show _ = _
      rw [HV.out]; exact (if_pos hb).symm
    go_wp2
    go_ret2
    exact ⟨congrArg (fun x => Ending.returned (.tuple #[.int .i64 x, .bool true])) HF.out, m, HM.out⟩
  · have hbb : decide ((9223372036854775808 : Int) ≤ (q : Int)) = true := decide_eq_true (by omega)
    have HF : Hid ((-9223372036854775808 : Int) = res) := by
      show _ = _
      rw [HV.out]; exact (if_neg hb).symm
    clear hb
    go_wp2
    go_ret2
    exact ⟨congrArg (fun x => Ending.returned (.tuple #[.int .i64 x, .bool true])) HF.out, m, HM.out⟩
end Go.Proofs.Qxb6608745a
