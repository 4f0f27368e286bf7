import Derived.Test.Qxb6608745aMul
import Derived.Test.Qxb6608745aDivz
namespace Go.Proofs.Qxb6608745a
open Go.RowKit
set_option linter.unusedVariables false

/-- The two words of N. -/
theorem zzDivN (N d : Nat) (hN : N < 340282366920938463463374607431768211456) (hd : 1 ≤ d) (hd2 : d ≤ 9223372036854775807) (w : World) :
    Calls Try.prog 16 #[.int .u64 ((N / 18446744073709551616 : Nat) : Int), .int .u64 ((N % 18446744073709551616 : Nat) : Int), .int .u64 d] w fun e w' => e = .returned (.tuple #[.int .u64 ((N / d / 18446744073709551616 : Nat) : Int), .int .u64 ((N / d % 18446744073709551616 : Nat) : Int), .int .u64 ((N % d : Nat) : Int)]) ∧ w' = w := by
  have h := zzDiv_any (N / 18446744073709551616) (N % 18446744073709551616) d (by omega) (by omega) hd hd2 w
  rw [Nat.div_add_mod'] at h
  exact h

theorem mul_lt128 {a b : Nat} (ha : a ≤ 9223372036854775808) (hb : b ≤ 9223372036854775807) : a * b < 340282366920938463463374607431768211456 := by
  have : a * b ≤ 9223372036854775808 * 9223372036854775807 := Nat.mul_le_mul ha hb
  omega

theorem mul_lt126 {a b : Nat} (ha : a ≤ 9223372036854775807) (hb : b ≤ 9223372036854775807) : a * b < 85070591730234615847396907784232501249 + 1 := by
  have : a * b ≤ 9223372036854775807 * 9223372036854775807 := Nat.mul_le_mul ha hb
  omega

theorem quo_le {t S L : Nat} (hL : 1 ≤ L) (h : S ≤ L) : t * S / L ≤ t := by
  have : t * S ≤ t * L := Nat.mul_le_mul_left _ h
  calc t * S / L ≤ t * L / L := Nat.div_le_div_right this
    _ = t := Nat.mul_div_cancel _ hL

theorem negneg (t : Nat) (ht : t ≤ 9223372036854775808) : IntKind.u64.wrap (-IntKind.u64.wrap (-(t : Int))) = t := by
  simp only [IntKind.wrap_u64]; omega

theorem ceil_eq (N L q r : Nat) (hL : 1 ≤ L) (hq : N / L = q) (hr : N % L = r) : (N + (L - 1)) / L = if r = 0 then q else q + 1 := by
  have e := Nat.div_add_mod N L
  have l := Nat.mod_lt N hL
  rw [hq, hr] at e
  rw [hr] at l
  by_cases h : r = 0
  · rw [if_pos h, ← e, h]
    exact (divmod_uniq (q := q) (r := L - 1) (by omega) (by omega)).1
  · rw [if_neg h]
    exact (divmod_uniq (q := q + 1) (r := r - 1) (by rw [Nat.mul_add]; omega) (by omega)).1

theorem ceil_le {t S L : Nat} (hL : 1 ≤ L) (h : S ≤ L) : (t * S + (L - 1)) / L ≤ t := by
  have : t * S ≤ t * L := Nat.mul_le_mul_left _ h
  calc (t * S + (L - 1)) / L ≤ (L * t + (L - 1)) / L := Nat.div_le_div_right (by rw [Nat.mul_comm L t]; omega)
    _ = t := (divmod_uniq (q := t) (r := L - 1) rfl (by omega)).1

theorem negI (q : Nat) (h : q ≤ 9223372036854775808) : wrap64 (-wrap64 (q : Int)) = -(q : Int) := by
  unfold wrap64; omega

set_option maxHeartbeats 1000000 in
theorem zzSlotOf_pos (t L S : Nat) (ht : t ≤ 9223372036854775807) (hS : 1 ≤ S) (hSL : S ≤ L) (hL : L ≤ 9223372036854775807) (w : World) :
    Calls Try.prog 11 #[.int .i64 t, .int .i64 L, .int .i64 S] w fun e w' => e = .returned (.int .i64 ((t * S / L : Nat) : Int)) ∧ w' = w := by
  have hq := quo_le (t := t) (by omega : 1 ≤ L) hSL
  have hn : (decide ((t : Int) < 0)) = false := by simp
  generalize hQ : t * S / L = q at hq ⊢
  have HQ := hideP hQ
  clear hQ
  go_enter Try.func11, Try.ntmps11
  go_wp2_with fail
  refine (zzMul_any t S (by omega) (by omega) _).mono ?_
  rintro e w1 ⟨rfl, h1⟩
  subst w1
  go_wp2_with fail
  refine (zzDivN (t * S) L (mul_lt128 (by omega) (by omega)) (by omega) hL _).mono ?_
  rintro e w1 ⟨rfl, h1⟩
  subst w1
  rw [HQ.out, Nat.mod_eq_of_lt (show q < 18446744073709551616 by omega)]
  go_wp2
  go_ret
  exact ⟨rfl, rfl⟩

set_option maxHeartbeats 1000000 in
theorem zzSlotOf_neg (t L S : Nat) (h1 : 1 ≤ t) (ht : t ≤ 9223372036854775808) (hS : 1 ≤ S) (hSL : S ≤ L) (hL : L ≤ 9223372036854775807) (w : World) :
    Calls Try.prog 11 #[.int .i64 (-(t : Int)), .int .i64 L, .int .i64 S] w fun e w' => e = .returned (.int .i64 (-(((t * S + (L - 1)) / L : Nat) : Int))) ∧ w' = w := by
  have hc := ceil_le (t := t) (by omega : 1 ≤ L) hSL
  have hce := ceil_eq (t * S) L _ _ (by omega) rfl rfl
  generalize hC : (t * S + (L - 1)) / L = c at hc hce ⊢
  have hq := quo_le (t := t) (by omega : 1 ≤ L) hSL
  generalize hQ : t * S / L = q at hq hce
  generalize hR : t * S % L = r at hce
  have HC := hideP hc
  have HE := hideP hce
  have HQ := hideP hQ
  have HR := hideP hR
  have HT := hideP ht
  have HQL := hideP hq
  have HL := hideP hL
  clear hC hQ hR hce
  have h0 : decide (0 < t) = true := decide_eq_true (by omega)
  go_enter Try.func11, Try.ntmps11
  go_wp2_with fail
  rw [negneg t ht]
  refine (zzMul_any t S (by omega) (by omega) _).mono ?_
  rintro e w1 ⟨rfl, h1⟩
  subst w1
  go_wp2_with fail
  refine (zzDivN (t * S) L (mul_lt128 (by omega) (by omega)) (by omega) hL _).mono ?_
  rintro e w1 ⟨rfl, h1⟩
  subst w1
  rw [HQ.out, HR.out, Nat.mod_eq_of_lt (show q < 18446744073709551616 by omega)]
  clear ht hL hq hc hSL
  have hq64 : q + 1 < 18446744073709551616 := by have := HQL.out; have := HT.out; omega
  by_cases hr : r = 0
  · have hrb : ((r : Int) == 0) = true := by rw [hr]; rfl
    have HF : Hid (wrap64 (-wrap64 (q : Int)) = -(c : Int)) := by
      have := HE.out; rw [if_pos hr] at this; rw [this]; exact negI q (by have := HQL.out; have := HT.out; omega)
    go_wp2
    go_ret
    exact ⟨congrArg (fun x => Ending.returned (Value.int .i64 x)) HF.out, rfl⟩
  · have hrb : ((r : Int) == 0) = false := by rw [beq_eq_false_iff_ne]; omega
    have HF : Hid (wrap64 (-wrap64 ((q : Int) + 1)) = -(c : Int)) := by
      have h := HE.out; rw [if_neg hr] at h; rw [h]; exact negI (q + 1) (by have := HC.out; have := HT.out; omega)
    go_wp2
    go_ret
    exact ⟨congrArg (fun x => Ending.returned (Value.int .i64 x)) HF.out, rfl⟩

/-- What a slot's start is handed back as. -/
def startV (c : Nat) : Value := if c ≤ 9223372036854775807 then .tuple #[.int .i64 (c : Int), .bool true] else .tuple #[.int .i64 0, .bool false]

theorem startV_yes {c : Nat} (h : c ≤ 9223372036854775807) : startV c = .tuple #[.int .i64 (c : Int), .bool true] := if_pos h
theorem startV_no {c : Nat} (h : 9223372036854775807 < c) : startV c = .tuple #[.int .i64 0, .bool false] := if_neg (by omega)

set_option maxHeartbeats 1000000 in
theorem zzSlotStart_pos (k L S : Nat) (hk : k ≤ 9223372036854775807) (hS : 1 ≤ S) (hS2 : S ≤ 9223372036854775807) (hL : L ≤ 9223372036854775807) (w : World) :
    Calls Try.prog 18 #[.int .i64 k, .int .i64 L, .int .i64 S] w fun e w' => e = .returned (startV ((k * L + (S - 1)) / S)) ∧ w' = w := by
  have hN := mul_lt126 hk hL
  have hce := ceil_eq (k * L) S _ _ (by omega) rfl rfl
  have hqN : k * L / S ≤ k * L := Nat.div_le_self _ _
  generalize hC : (k * L + (S - 1)) / S = c at hce ⊢
  generalize hQ : k * L / S = q at hce hqN
  generalize hR : k * L % S = r at hce
  obtain ⟨res, hres⟩ : ∃ res, res = startV c := ⟨_, rfl⟩
  rw [← hres]
  have HV := hideP hres
  have HE := hideP hce
  have HQ := hideP hQ
  have HR := hideP hR
  have HN := hideP hN
  have HS2 := hideP hS2
  have ha1 : q / 18446744073709551616 + 1 < 18446744073709551616 := by clear hce hC hQ hR hres; omega
  have hb1 : q % 18446744073709551616 < 18446744073709551616 := Nat.mod_lt _ (Nat.zero_lt_succ _)
  have HAB : Hid (q / 18446744073709551616 * 18446744073709551616 + q % 18446744073709551616 = q) := Nat.div_add_mod' _ _
  clear hC hQ hR hce hN hqN hres
  have hk0 : decide (0 ≤ (k : Int)) = true := by simp
  go_enter Try.func18, Try.ntmps18
  go_wp2_with fail
  refine (zzMul_any k L (by omega) (by omega) _).mono ?_
  rintro e w1 ⟨rfl, h1⟩
  subst w1
  go_wp2_with fail
  refine (zzDivN (k * L) S (Nat.lt_trans HN.out (by omega)) hS HS2.out _).mono ?_
  rintro e w1 ⟨rfl, h1⟩
  subst w1
  rw [HQ.out, HR.out]
  clear hk hL hS2 hS
  generalize q / 18446744073709551616 = a at ha1 HAB ⊢
  generalize q % 18446744073709551616 = b at hb1 HAB ⊢
  by_cases hr : r = 0
  · have hrb : ((r : Int) != 0) = false := by rw [hr]; rfl
    have HCQ : Hid (c = q) := by have := HE.out; rw [if_pos hr] at this; exact this
    by_cases ha : a = 0
    · have hab : ((a : Int) != 0) = false := by rw [ha]; rfl
      by_cases hb : b ≤ 9223372036854775807
      · have hbb : decide ((9223372036854775807 : Int) < (b : Int)) = false := decide_eq_false (by omega)
        have HF : Hid (.tuple #[.int .i64 (b : Int), .bool true] = res) := by
          have e : c = b := by have := HCQ.out; have := HAB.out; omega
          rw [HV.out, e, startV_yes hb]; rfl
        clear ha hr
        go_wp2
        go_ret2
        exact ⟨congrArg Ending.returned HF.out, rfl⟩
      · have hbb : decide ((9223372036854775807 : Int) < (b : Int)) = true := decide_eq_true (by omega)
        have HF : Hid (.tuple #[.int .i64 0, .bool false] = res) := by
          have e : c = b := by have := HCQ.out; have := HAB.out; omega
          rw [HV.out, e, startV_no (by omega)]; rfl
        clear ha hr hb
        go_wp2
        go_ret2
        exact ⟨congrArg Ending.returned HF.out, rfl⟩
    · have hab : ((a : Int) != 0) = true := by simp; omega
      have HF : Hid (.tuple #[.int .i64 0, .bool false] = res) := by
        have e : 9223372036854775807 < c := by have := HCQ.out; have := HAB.out; omega
        rw [HV.out, startV_no e]; rfl
      clear ha hr
      go_wp2
      go_ret2
      exact ⟨congrArg Ending.returned HF.out, rfl⟩
  · have hrb : ((r : Int) != 0) = true := by simp; omega
    have HCQ : Hid (c = q + 1) := by have := HE.out; rw [if_neg hr] at this; exact this
    by_cases hw : b + 1 = 18446744073709551616
    · have hwr : (b : Int) = 18446744073709551615 := by omega
      have HF : Hid (.tuple #[.int .i64 0, .bool false] = res) := by
        have e : 9223372036854775807 < c := by have := HCQ.out; have := HAB.out; omega
        rw [HV.out, startV_no e]; rfl
      have hab : (((a : Int) + 1) != 0) = true := by simp; omega
      clear hr hw hb1
      rw [hwr]
      clear hwr
      go_wp2
      go_ret2
      exact ⟨congrArg Ending.returned HF.out, rfl⟩
    · have hb2 : b + 1 < 18446744073709551616 := by omega
      have hz : (((b : Int) + 1) == 0) = false := by rw [beq_eq_false_iff_ne]; omega
      by_cases ha : a = 0
      · have hab : ((a : Int) != 0) = false := by rw [ha]; rfl
        by_cases hb : b + 1 ≤ 9223372036854775807
        · have hbb : decide ((9223372036854775807 : Int) < (b : Int) + 1) = false := decide_eq_false (by omega)
          have HF : Hid (.tuple #[.int .i64 ((b : Int) + 1), .bool true] = res) := by
            have e : c = b + 1 := by have := HCQ.out; have := HAB.out; omega
            rw [HV.out, e, startV_yes hb]; rfl
          clear ha hr hw hb1
          go_wp2
          go_ret2
          exact ⟨congrArg Ending.returned HF.out, rfl⟩
        · have hbb : decide ((9223372036854775807 : Int) < (b : Int) + 1) = true := decide_eq_true (by omega)
          have HF : Hid (.tuple #[.int .i64 0, .bool false] = res) := by
            have e : c = b + 1 := by have := HCQ.out; have := HAB.out; omega
            rw [HV.out, e, startV_no (by omega)]; rfl
          clear ha hr hb hw hb1
          go_wp2
          go_ret2
          exact ⟨congrArg Ending.returned HF.out, rfl⟩
      · have hab : ((a : Int) != 0) = true := by simp; omega
        have HF : Hid (.tuple #[.int .i64 0, .bool false] = res) := by
          have e : 9223372036854775807 < c := by have := HCQ.out; have := HAB.out; omega
          rw [HV.out, startV_no e]; rfl
        clear ha hr hw hb1
        go_wp2
        go_ret2
        exact ⟨congrArg Ending.returned HF.out, rfl⟩

/-- A negative slot's start. -/
def startN (q : Nat) : Int := if q < 9223372036854775808 then -(q : Int) else -9223372036854775808

set_option maxHeartbeats 1000000 in
theorem zzSlotStart_neg (k L S : Nat) (hk1 : 1 ≤ k) (hk : k ≤ 9223372036854775808) (hS : 1 ≤ S) (hS2 : S ≤ 9223372036854775807) (hL : L ≤ 9223372036854775807) (w : World) :
    Calls Try.prog 18 #[.int .i64 (-(k : Int)), .int .i64 L, .int .i64 S] w fun e w' => e = .returned (.tuple #[.int .i64 (startN (k * L / S)), .bool true]) ∧ w' = w := by
  have hN := mul_lt128 hk hL
  have hqN : k * L / S ≤ k * L := Nat.div_le_self _ _
  generalize hQ : k * L / S = q at hqN ⊢
  obtain ⟨res, hres⟩ : ∃ res, res = startN q := ⟨_, rfl⟩
  rw [← hres]
  have HV := hideP hres
  have HQ := hideP hQ
  have HN := hideP hN
  have HS2 := hideP hS2
  have hb1 : q % 18446744073709551616 < 18446744073709551616 := Nat.mod_lt _ (Nat.zero_lt_succ _)
  have HAB : Hid (q / 18446744073709551616 * 18446744073709551616 + q % 18446744073709551616 = q) := Nat.div_add_mod' _ _
  clear hQ hN hqN hres
  have hk0 : decide (0 ≤ (-(k : Int))) = false := decide_eq_false (by omega)
  go_enter Try.func18, Try.ntmps18
  go_wp2_with fail
  rw [negneg k hk]
  refine (zzMul_any k L (by omega) (by omega) _).mono ?_
  rintro e w1 ⟨rfl, h1⟩
  subst w1
  go_wp2_with fail
  refine (zzDivN (k * L) S HN.out hS HS2.out _).mono ?_
  rintro e w1 ⟨rfl, h1⟩
  subst w1
  rw [HQ.out]
  clear hk hL hS2 hS hk1
  generalize q / 18446744073709551616 = a at HAB ⊢
  generalize q % 18446744073709551616 = b at hb1 HAB ⊢
  by_cases ha : a = 0
  · have hab : ((a : Int) != 0) = false := by rw [ha]; rfl
    by_cases hb : b < 9223372036854775808
    · have hbb : decide ((9223372036854775808 : Int) ≤ (b : Int)) = false := decide_eq_false (by omega)
      have HF : Hid (-(b : Int) = res) := by
        have e : q = b := by have := HAB.out; omega
        rw [HV.out, e]; exact (if_pos hb).symm
      clear ha
      go_wp2
      go_ret2
      exact ⟨congrArg (fun x => Ending.returned (.tuple #[.int .i64 x, .bool true])) HF.out, rfl⟩
    · have hbb : decide ((9223372036854775808 : Int) ≤ (b : Int)) = true := decide_eq_true (by omega)
      have HF : Hid ((-9223372036854775808 : Int) = res) := by
        have e : q = b := by have := HAB.out; omega
        rw [HV.out, e]; exact (if_neg hb).symm
      clear ha hb
      go_wp2
      go_ret2
      exact ⟨congrArg (fun x => Ending.returned (.tuple #[.int .i64 x, .bool true])) HF.out, rfl⟩
  · have hab : ((a : Int) != 0) = true := by simp; omega
    have HF : Hid ((-9223372036854775808 : Int) = res) := by
      have e : ¬ q < 9223372036854775808 := by have := HAB.out; omega
      rw [HV.out]; exact (if_neg e).symm
    clear ha
    go_wp2
    go_ret2
    exact ⟨congrArg (fun x => Ending.returned (.tuple #[.int .i64 x, .bool true])) HF.out, rfl⟩
end Go.Proofs.Qxb6608745a
