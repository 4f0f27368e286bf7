import Derived.Test.Qxb6608745aLaid
import Derived.Test.Qxb6608745aArith
namespace Go.Proofs.Qxb6608745a
open Go.RowKit
set_option linter.unusedVariables false

theorem bitN (a : Nat) (ha : a < 18446744073709551616) (m : Nat) : bits .and .u64 ((a : Int) / 2 ^ m) 1 = ((a / 2 ^ m % 2 : Nat) : Int) := by
  have h1 : ((a : Int) / 2 ^ m) = ((a / 2 ^ m : Nat) : Int) := by
    rw [Int.natCast_ediv, Int.natCast_pow]; rfl
  have h2 : a / 2 ^ m ≤ a := Nat.div_le_self _ _
  rw [h1]
  have := u64_and_nat (a / 2 ^ m) 1 (by omega) (by omega)
  rw [nat_mask1] at this
  exact this

theorem orBit (a b : Nat) (ha : a < 9223372036854775808) (hb : b < 2) : bits .or .u64 ((a : Int) * 2) (b : Int) = ((2 * a + b : Nat) : Int) := by
  rw [show ((a : Int) * 2) = ((2 * a : Nat) : Int) by omega, u64_or_nat (2 * a) b (by omega) (by omega), nat_join 1 (2 * a) b (by omega) (by omega)]

theorem wrapTwice (a : Nat) (ha : a < 9223372036854775808) : IntKind.u64.wrap ((a : Int) * 2) = (a : Int) * 2 := by
  rw [IntKind.wrap_u64]; omega

theorem wrapTwice' (a : Nat) : IntKind.u64.wrap ((a : Int) * 2) = ((a % 9223372036854775808 : Nat) : Int) * 2 := by
  rw [IntKind.wrap_u64]; omega

theorem orQh (qh ql : Nat) (hq : qh < 9223372036854775808) (hql : ql < 18446744073709551616) : bits .or .u64 ((qh : Int) * 2) ((ql : Int) / 9223372036854775808) = ((2 * qh + ql / 9223372036854775808 : Nat) : Int) := by
  rw [show (ql : Int) / 9223372036854775808 = ((ql / 9223372036854775808 : Nat) : Int) by omega]
  exact orBit qh _ hq (by omega)

theorem orQl (ql : Nat) : bits .or .u64 (IntKind.u64.wrap ((ql : Int) * 2)) 1 = ((2 * (ql % 9223372036854775808) + 1 : Nat) : Int) := by
  rw [wrapTwice' ql]; exact orBit (ql % 9223372036854775808) 1 (by omega) (by omega)

def DivInv (hi lo d k qh ql r : Nat) : Prop :=
  qh * 18446744073709551616 + ql = (hi * 18446744073709551616 + lo) / 2 ^ (128 - k) / d ∧ r = (hi * 18446744073709551616 + lo) / 2 ^ (128 - k) % d

theorem bit_hi (hi lo k : Nat) (hlo : lo < 18446744073709551616) (hk : k < 64) : (hi * 18446744073709551616 + lo) / 2 ^ (127 - k) = hi / 2 ^ (63 - k) := by
  rw [show 127 - k = 64 + (63 - k) by omega, Nat.pow_add, ← Nat.div_div_eq_div_mul]
  congr 1
  omega

theorem bit_lo (hi lo k : Nat) (hk : 64 ≤ k) (hk2 : k < 128) : (hi * 18446744073709551616 + lo) / 2 ^ (127 - k) % 2 = lo / 2 ^ (127 - k) % 2 := by
  rw [show (18446744073709551616 : Nat) = 2 ^ (127 - k) * (2 * 2 ^ (k - 64)) by
    rw [show 2 ^ (127 - k) * (2 * 2 ^ (k - 64)) = 2 ^ (127 - k) * (2 ^ 1 * 2 ^ (k - 64)) by rfl, ← Nat.pow_add, ← Nat.pow_add, show 127 - k + (1 + (k - 64)) = 64 by omega]]
  rw [show hi * (2 ^ (127 - k) * (2 * 2 ^ (k - 64))) = 2 ^ (127 - k) * (2 * (hi * 2 ^ (k - 64))) by
    rw [Nat.mul_left_comm]; congr 1; rw [Nat.mul_left_comm]]
  rw [Nat.mul_add_div (Nat.two_pow_pos _), Nat.mul_add_mod]

theorem divmod_uniq {P d q r : Nat} (h : P = d * q + r) (hr : r < d) : P / d = q ∧ P % d = r := by
  subst h
  exact ⟨by rw [Nat.mul_add_div (by omega), Nat.div_eq_of_lt hr, Nat.add_zero], by rw [Nat.mul_add_mod, Nat.mod_eq_of_lt hr]⟩

theorem pack (qh ql b : Nat) : (2 * qh + ql / 9223372036854775808) * 18446744073709551616 + (2 * (ql % 9223372036854775808) + b) = 2 * (qh * 18446744073709551616 + ql) + b := by omega

theorem pack0 (qh ql : Nat) : (2 * qh + ql / 9223372036854775808) * 18446744073709551616 + 2 * (ql % 9223372036854775808) = 2 * (qh * 18446744073709551616 + ql) := by omega

/-- One step of the long division. -/
theorem div_step (hi lo d k qh ql r b : Nat) (hhi : hi < 18446744073709551616) (hlo : lo < 18446744073709551616) (hd : 1 ≤ d) (hk : k < 128) (hql : ql < 18446744073709551616)
    (hb : b = (hi * 18446744073709551616 + lo) / 2 ^ (127 - k) % 2) (h : DivInv hi lo d k qh ql r) :
    qh < 9223372036854775808 ∧ r < d ∧ b < 2 ∧ (d ≤ 2 * r + b → DivInv hi lo d (k + 1) (2 * qh + ql / 9223372036854775808) (2 * (ql % 9223372036854775808) + 1) (2 * r + b - d)) ∧
      (2 * r + b < d → DivInv hi lo d (k + 1) (2 * qh + ql / 9223372036854775808) (2 * (ql % 9223372036854775808)) (2 * r + b)) := by
  obtain ⟨h1, h2⟩ := h
  have hN : hi * 18446744073709551616 + lo < 340282366920938463463374607431768211456 := by omega
  unfold DivInv
  rw [show 128 - (k + 1) = 127 - k by omega]
  rw [show 128 - k = (127 - k) + 1 by omega, Nat.pow_succ, ← Nat.div_div_eq_div_mul] at h1 h2
  have hP : (hi * 18446744073709551616 + lo) / 2 ^ (127 - k) ≤ hi * 18446744073709551616 + lo := Nat.div_le_self _ _
  generalize (hi * 18446744073709551616 + lo) / 2 ^ (127 - k) = P at *
  have hr : r < d := by rw [h2]; exact Nat.mod_lt _ hd
  have hq : P / 2 / d ≤ P / 2 := Nat.div_le_self _ _
  have e : P / 2 = d * (qh * 18446744073709551616 + ql) + r := by rw [h1, h2]; exact (Nat.div_add_mod _ _).symm
  have e2 : P = d * (2 * (qh * 18446744073709551616 + ql)) + (2 * r + b) := by
    rw [Nat.mul_left_comm]; omega
  refine ⟨by omega, hr, by omega, fun hge => ?_, fun hlt => ?_⟩
  · have e3 : P = d * (2 * (qh * 18446744073709551616 + ql) + 1) + (2 * r + b - d) := by rw [Nat.mul_add]; omega
    have u := divmod_uniq e3 (by omega)
    rw [u.1, u.2]
    constructor
    · exact pack qh ql 1
    · rfl
  · have u := divmod_uniq e2 (by omega)
    rw [u.1, u.2]
    constructor
    · exact pack0 qh ql
    · rfl

set_option maxRecDepth 100000 in
set_option maxHeartbeats 1000000 in
theorem zzDiv_any (hi lo d : Nat) (hhi : hi < 18446744073709551616) (hlo : lo < 18446744073709551616) (hd : 1 ≤ d) (hd2 : d ≤ 9223372036854775807) (w : World) :
    Calls Try.prog 16 #[.int .u64 hi, .int .u64 lo, .int .u64 d] w fun e w' => e = .returned (.tuple #[.int .u64 (((hi * 18446744073709551616 + lo) / d / 18446744073709551616 : Nat) : Int), .int .u64 (((hi * 18446744073709551616 + lo) / d % 18446744073709551616 : Nat) : Int), .int .u64 (((hi * 18446744073709551616 + lo) % d : Nat) : Int)]) ∧ w' = w := by
  generalize hA : (hi * 18446744073709551616 + lo) / d / 18446744073709551616 = A
  generalize hB : (hi * 18446744073709551616 + lo) / d % 18446744073709551616 = B
  generalize hC : (hi * 18446744073709551616 + lo) % d = C
  have HA := hideP hA
  have HB := hideP hB
  have HC := hideP hC
  clear hA hB hC
  have H0 : Hid (DivInv hi lo d 0 0 0 0) := by
    show DivInv _ _ _ _ _ _ _
    have hN : (hi * 18446744073709551616 + lo) / 2 ^ (128 - 0) = 0 := Nat.div_eq_of_lt (by omega)
    unfold DivInv
    rw [hN]
    exact ⟨by simp, by simp⟩
  go_enter Try.func16, Try.ntmps16
  go_wp2
  go_loop [9, 10, 11, 12] (fun s9 s10 s11 s12 => ∃ k qh ql r : Nat, k ≤ 128 ∧ s9 = .int .u64 qh ∧ s10 = .int .u64 ql ∧ s11 = .int .u64 r ∧ s12 = .int .i64 k ∧ qh < 18446744073709551616 ∧ ql < 18446744073709551616 ∧ r < 9223372036854775808 ∧ Hid (DivInv hi lo d k qh ql r)) (fun _ _ _ s12 => 128 - (intOf s12).toNat)
  case atStart => exact ⟨0, 0, 0, 0, by omega, rfl, rfl, rfl, rfl, by omega, by omega, by omega, H0⟩
  case round =>
    obtain ⟨k, qh, ql, r, hk, rfl, rfl, rfl, rfl, hqh, hql, hr, HI⟩ := hrel
    by_cases hk2 : k < 128
    · by_cases h64 : k < 64
      · have hbt := bitN hi hhi (63 - k)
        have st := div_step hi lo d k qh ql r _ hhi hlo hd hk2 hql (congrArg (· % 2) (bit_hi hi lo k hlo h64)).symm HI.out
        generalize hi / 2 ^ (63 - k) % 2 = b at st hbt
        obtain ⟨hq3, hrd, hb2, S1, S2⟩ := st
        have ho1 : bits .or .u64 ((r : Int) * 2) (bits .and .u64 ((hi : Int) / 2 ^ (63 - k)) 1) = ((2 * r + b : Nat) : Int) := by rw [hbt]; exact orBit r b (by omega) hb2
        have HO1 := hideP ho1
        have HO2 := hideP (orQh qh ql hq3 hql)
        have HO3 := hideP (orQl ql)
        have HW2 := hideP (wrapTwice' ql)
        by_cases hge : d ≤ 2 * r + b
        · have HS := hideP (S1 hge)
          have ht : (d : Int) ≤ bits .or .u64 ((r : Int) * 2) (bits .and .u64 ((hi : Int) / 2 ^ (63 - k)) 1) := by rw [ho1]; omega
          clear hbt ho1 S1 S2
          go_wp2
          go_round
          case rel =>
            refine ⟨k + 1, _, _, _, by omega, congrArg _ HO2.out, congrArg _ HO3.out, congrArg _ ?_, by go_num, by omega, by omega, ?_, HS⟩
            · rw [HO1.out, IntKind.wrap_u64]; omega
            · omega
          case measure => simp [intOf]; omega
        · have HS := hideP (S2 (by omega))
          have ht : bits .or .u64 ((r : Int) * 2) (bits .and .u64 ((hi : Int) / 2 ^ (63 - k)) 1) < (d : Int) := by rw [ho1]; omega
          clear hbt ho1 S1 S2
          go_wp2
          go_round
          case rel =>
            refine ⟨k + 1, _, _, _, by omega, congrArg _ HO2.out, congrArg _ (HW2.out.trans ?_), congrArg _ HO1.out, by go_num, by omega, by omega, by omega, HS⟩
            omega
          case measure => simp [intOf]; omega
      · have hbt := bitN lo hlo (127 - k)
        have st := div_step hi lo d k qh ql r _ hhi hlo hd hk2 hql (bit_lo hi lo k (by omega) hk2).symm HI.out
        generalize lo / 2 ^ (127 - k) % 2 = b at st hbt
        obtain ⟨hq3, hrd, hb2, S1, S2⟩ := st
        have ho1 : bits .or .u64 ((r : Int) * 2) (bits .and .u64 ((lo : Int) / 2 ^ (127 - k)) 1) = ((2 * r + b : Nat) : Int) := by rw [hbt]; exact orBit r b (by omega) hb2
        have HO1 := hideP ho1
        have HO2 := hideP (orQh qh ql hq3 hql)
        have HO3 := hideP (orQl ql)
        have HW2 := hideP (wrapTwice' ql)
        by_cases hge : d ≤ 2 * r + b
        · have HS := hideP (S1 hge)
          have ht : (d : Int) ≤ bits .or .u64 ((r : Int) * 2) (bits .and .u64 ((lo : Int) / 2 ^ (127 - k)) 1) := by rw [ho1]; omega
          clear hbt ho1 S1 S2
          go_wp2
          go_round
          case rel =>
            refine ⟨k + 1, _, _, _, by omega, congrArg _ HO2.out, congrArg _ HO3.out, congrArg _ ?_, by go_num, by omega, by omega, ?_, HS⟩
            · rw [HO1.out, IntKind.wrap_u64]; omega
            · omega
          case measure => simp [intOf]; omega
        · have HS := hideP (S2 (by omega))
          have ht : bits .or .u64 ((r : Int) * 2) (bits .and .u64 ((lo : Int) / 2 ^ (127 - k)) 1) < (d : Int) := by rw [ho1]; omega
          clear hbt ho1 S1 S2
          go_wp2
          go_round
          case rel =>
            refine ⟨k + 1, _, _, _, by omega, congrArg _ HO2.out, congrArg _ (HW2.out.trans ?_), congrArg _ HO1.out, by go_num, by omega, by omega, by omega, HS⟩
            omega
          case measure => simp [intOf]; omega
    · obtain rfl : k = 128 := by omega
      have HE : Hid (qh = A ∧ ql = B ∧ r = C) := by
        obtain ⟨h1, h2⟩ := HI.out
        rw [show (2 : Nat) ^ (128 - 128) = 1 from rfl, Nat.div_one] at h1 h2
        rw [← HA.out, ← HB.out, ← HC.out]
        exact ⟨by omega, by omega, h2⟩
      go_wp2
      go_ret3
      obtain ⟨h1, h2, h3⟩ := HE.out
      rw [← h1, ← h2, ← h3]
      exact ⟨rfl, rfl⟩
end Go.Proofs.Qxb6608745a
