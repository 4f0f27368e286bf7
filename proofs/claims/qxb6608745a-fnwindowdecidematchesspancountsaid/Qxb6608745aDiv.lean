import Derived.Test.Qxb6608745aLaid
import Derived.Test.Qxb6608745aArith
import Derived.Test.Qxb6608745aEst
import Derived.BigQuiet
import Derived.Deep.DeepCutAuto
import Derived.Deep.QuietTactic
namespace Go.Proofs.Qxb6608745a
open Go.RowKit
set_option linter.unusedVariables false

/-- What Div64 hands back: the quotient, and some remainder. -/
def QuoRet (q : Nat) (e : Ending) : Prop := ∃ r : Int, e = .returned (.tuple #[.int .u64 (q : Int), .int .u64 r])

theorem quoRet_mk {q : Nat} {a r : Int} (h : a = q) : QuoRet q (.returned (.tuple #[.int .u64 a, .int .u64 r])) := ⟨r, by rw [h]⟩

theorem shlN (a s : Nat) (h : a * 2 ^ s < 18446744073709551616) : IntKind.u64.wrap ((a : Int) * 2 ^ s) = ((a * 2 ^ s : Nat) : Int) := by
  rw [show ((a : Int) * 2 ^ s) = ((a * 2 ^ s : Nat) : Int) by rw [Int.natCast_mul, Int.natCast_pow]; rfl]
  exact Mul64.wrapN _ h

theorem shlM (a s : Nat) : IntKind.u64.wrap ((a : Int) * 2 ^ s) = ((a * 2 ^ s % 18446744073709551616 : Nat) : Int) := by
  rw [show ((a : Int) * 2 ^ s) = ((a * 2 ^ s : Nat) : Int) by rw [Int.natCast_mul, Int.natCast_pow]; rfl]
  exact Mul64.wrapM _

theorem shrN (a s : Nat) : ((a : Int) / 2 ^ s) = ((a / 2 ^ s : Nat) : Int) := by
  rw [Int.natCast_ediv, Int.natCast_pow]; rfl

theorem orS (hi l s : Nat) (h1 : hi * 2 ^ s < 18446744073709551616) (hl : l < 2 ^ s) (h3 : l < 18446744073709551616) : bits .or .u64 ((hi * 2 ^ s : Nat) : Int) (l : Int) = ((hi * 2 ^ s + l : Nat) : Int) := by
  rw [u64_or_nat _ _ h1 h3, nat_join s _ _ (Nat.mul_mod_left _ _) hl]

theorem quoN (u v : Nat) (hu : u < 18446744073709551616) : IntKind.u64.wrap ((u : Int).tdiv (v : Int)) = ((u / v : Nat) : Int) := by
  rw [← Int.ofNat_tdiv]
  exact Mul64.wrapN _ (Nat.lt_of_le_of_lt (Nat.div_le_self _ _) hu)

theorem remN (u v : Nat) (hu : u < 18446744073709551616) : IntKind.u64.wrap ((u : Int) - IntKind.u64.wrap (((u / v : Nat) : Int) * (v : Int))) = ((u - u / v * v : Nat) : Int) := by
  have := Nat.div_mul_le_self u v
  rw [Mul64.mulN, Mul64.wrapN _ (by omega), IntKind.wrap_u64]
  omega

theorem un21N (u a y q : Nat) (hy : 0 < y) (hy2 : y < 18446744073709551616) (hq : q = (u * 4294967296 + a) / y) :
    IntKind.u64.wrap (IntKind.u64.wrap (IntKind.u64.wrap ((u : Int) * 4294967296) + (a : Int)) - IntKind.u64.wrap ((q : Int) * (y : Int))) = (((u * 4294967296 + a) % y : Nat) : Int) := by
  have d := Nat.div_add_mod (u * 4294967296 + a) y
  have l := Nat.mod_lt (u * 4294967296 + a) hy
  rw [← hq, Nat.mul_comm] at d
  rw [Mul64.mulN]
  simp only [IntKind.wrap_u64]
  generalize (u * 4294967296 + a) % y = R at *
  generalize q * y = X at *
  omega

theorem lastN (q1 q0 : Nat) (h1 : q1 < 4294967296) (h : q1 * 4294967296 + q0 < 18446744073709551616) : IntKind.u64.wrap (IntKind.u64.wrap ((q1 : Int) * 4294967296) + (q0 : Int)) = ((q1 * 4294967296 + q0 : Nat) : Int) := by
  simp only [IntKind.wrap_u64]; omega

theorem est_q64 {u v1 v0 a q r : Nat} (h : Est u v1 v0 a q r) : q < 18446744073709551616 := by
  have := h.2.2.1; omega

theorem est_r64 {u v1 v0 a q r : Nat} (h : Est u v1 v0 a q r) (h1 : v1 < 4294967296) : r + v1 < 18446744073709551616 := by
  have := h.2.2.2; omega

theorem est_mb {q v0 : Nat} (hq : q < 4294967296) (h0 : v0 < 4294967296) : (q : Int) * (v0 : Int) < 18446744073709551616 := by
  rw [Mul64.mulN]
  have : q * v0 ≤ 4294967295 * 4294967295 := Nat.mul_le_mul (by omega) (by omega)
  omega

theorem est_ra {u v1 v0 a q r : Nat} (h : Est u v1 v0 a q r) (ha : a < 4294967296) : 4294967296 * (r : Int) + (a : Int) < 18446744073709551616 := by
  have := h.2.2.2; omega

theorem y_pos {Y : Nat} (h : 9223372036854775808 ≤ Y) : 0 < Y := by omega

theorem div_end (u v1 v0 Y a1 a0 p q Q R : Nat) (hY : v1 * 4294967296 + v0 = Y) (h1 : Y < 18446744073709551616) (h2 : 9223372036854775808 ≤ Y) (hu : u < v1 * 4294967296 + v0)
    (ha1 : a1 < 4294967296) (ha0 : a0 < 4294967296) (hp : p = (u * 4294967296 + a1) / (v1 * 4294967296 + v0)) (hR : (u * 4294967296 + a1) % Y = R)
    (hq : q = (R * 4294967296 + a0) / (v1 * 4294967296 + v0)) (hQ : (u * 18446744073709551616 + (a1 * 4294967296 + a0)) / Y = Q) :
    IntKind.u64.wrap (IntKind.u64.wrap ((p : Int) * 4294967296) + (q : Int)) = (Q : Int) := by
  rw [hY] at hp hq hu
  subst hR
  have e := two_digits u Y a1 a0 p q (y_pos h2) ha1 ha0 hp hq
  rw [hQ] at e
  have hp2 : p < 4294967296 := by
    rw [hp, Nat.div_lt_iff_lt_mul (y_pos h2)]
    omega
  have hq2 : q < 4294967296 := by
    have := Nat.mod_lt (u * 4294967296 + a1) (y_pos h2)
    rw [hq, Nat.div_lt_iff_lt_mul (y_pos h2)]
    omega
  rw [e]
  exact lastN p q hp2 (by omega)

set_option maxRecDepth 100000 in
set_option maxHeartbeats 4000000 in
theorem div64_any (hi lo y : Nat) (hlo : lo < 18446744073709551616) (hy : 1 ≤ y) (hy2 : y ≤ 9223372036854775807) (hh : hi < y) (w : World) :
    Calls Try.prog 24 #[.int .u64 hi, .int .u64 lo, .int .u64 y] w fun e w' => QuoRet ((hi * 18446744073709551616 + lo) / y) e ∧ ∃ n, w' = w.drewN n := by
  generalize hQ : (hi * 18446744073709551616 + lo) / y = Q
  have HQ := hideP hQ
  clear hQ
  by_cases hz : hi = 0
  · subst hz
    have HQ' : Hid (IntKind.u64.wrap ((lo : Int).tdiv (y : Int)) = (Q : Int)) := by
      have := HQ.out; rw [Nat.zero_mul, Nat.zero_add] at this; rw [← this]; exact quoN lo y hlo
    go_enter Try.func24, Try.ntmps24
    go_wp2
    go_quiet (fail)
    go_wp2
    go_ret2
    exact ⟨quoRet_mk HQ'.out, _, rfl⟩
  · obtain ⟨s, es, hs1, hs2, hn1, hn2⟩ := lz_spec y hy hy2
    obtain ⟨c1, c2, c3⟩ := shift_words hi lo y s hs1 hs2 hlo hh hn1
    have hhs : hi * 2 ^ s < 18446744073709551616 := Nat.lt_of_le_of_lt (Nat.le_add_right _ _) (Nat.lt_trans c1 hn1)
    have hls : lo / 2 ^ (64 - s) < 18446744073709551616 := Nat.lt_of_le_of_lt (Nat.div_le_self _ _) hlo
    have ES := hideP es
    have E1 := hideP (shlN y s hn1)
    have E3 : Hid (bits .or .u64 (IntKind.u64.wrap ((hi : Int) * 2 ^ s)) ((lo : Int) / 2 ^ (64 - s)) = ((hi * 2 ^ s + lo / 2 ^ (64 - s) : Nat) : Int)) := by
      show _ = _
      rw [shlN hi s hhs, shrN]
      exact orS hi _ s hhs c2 hls
    have E4 := hideP (shlM lo s)
    have hdz : ¬ IntKind.u64.wrap ((y : Int) * 2 ^ s) / 4294967296 = 0 := by rw [shlN y s hn1]; omega
    have hA : lo * 2 ^ s % 18446744073709551616 < 18446744073709551616 := Nat.mod_lt _ (Nat.zero_lt_succ _)
    have C3 := hideP (c3.trans HQ.out)
    clear es c3 HQ
    go_enter Try.func24, Try.ntmps24
    go_wp2_with fail
    refine (lz64 y _ (by omega)).mono ?_
    rintro e w1 ⟨rfl, rfl⟩
    rw [ES.out]
    go_wp2
    rw [E1.out, E3.out, E4.out]
    clear E1 E3 E4 hdz ES c2 hhs hls
    generalize hi * 2 ^ s + lo / 2 ^ (64 - s) = u at c1 C3 ⊢
    generalize y * 2 ^ s = Y at c1 hn1 hn2 C3 ⊢
    generalize lo * 2 ^ s % 18446744073709551616 = A at hA C3 ⊢
    have hu64 : u < 18446744073709551616 := Nat.lt_trans c1 hn1
    rw [Mul64.maskN Y hn1, Mul64.maskN A hA, Mul64.divN, Mul64.divN, quoN u _ hu64, remN u _ hu64]
    have hYe : Y / 4294967296 * 4294967296 + Y % 4294967296 = Y := Nat.div_add_mod' Y 4294967296
    have hAe : A / 4294967296 * 4294967296 + A % 4294967296 = A := Nat.div_add_mod' A 4294967296
    have v1a : 2147483648 ≤ Y / 4294967296 := by omega
    have v1b : Y / 4294967296 < 4294967296 := by omega
    have v0b : Y % 4294967296 < 4294967296 := by omega
    have a1b : A / 4294967296 < 4294967296 := by omega
    have a0b : A % 4294967296 < 4294967296 := by omega
    generalize Y / 4294967296 = v1 at *
    generalize Y % 4294967296 = v0 at *
    generalize A / 4294967296 = a1 at *
    generalize A % 4294967296 = a0 at *
    subst hAe
    clear hA
    have HYe := hideP hYe
    have HU : Hid (u < v1 * 4294967296 + v0) := by show _ < _; rw [hYe]; exact c1
    have H0 := hideP (est_start u v1 v0 a1 HU.out v1a v1b v0b a1b)
    have hv1z : ¬ (v1 : Int) = 0 := by omega
    have V1a := hideP v1a
    have V1b := hideP v1b
    have V0b := hideP v0b
    have A1b := hideP a1b
    have A0b := hideP a0b
    have HN1 := hideP hn1
    have HN2 := hideP hn2
    have HU64 := hideP hu64
    clear hYe c1 hz hh hy hy2 hlo v1a v1b v0b a1b a0b hn1 hn2 hu64 hs1
    go_loop [15, 16] (fun sq sr => ∃ q r : Nat, sq = .int .u64 q ∧ sr = .int .u64 r ∧ Hid (Est u v1 v0 a1 q r)) (fun sq _ => (intOf sq).toNat)
    case atStart => exact ⟨_, _, rfl, rfl, H0⟩
    case round =>
      obtain ⟨q, r, rfl, rfl, HE⟩ := hrel
      have hq64 : q < 18446744073709551616 := est_q64 HE.out
      have hr64 : r + v1 < 18446744073709551616 := est_r64 HE.out V1b.out
      by_cases hbig : 4294967296 ≤ q
      · have HB := hideP hbig
        have hbig' : (4294967296 : Int) ≤ (q : Int) := by omega
        clear hbig
        have h1q := (est_down HE.out HU.out V1a.out V0b.out A1b.out (.inl HB.out)).1
        by_cases hbr : r + v1 < 4294967296
        · have HN := hideP (est_next HE.out HU.out V1a.out V0b.out A1b.out (.inl HB.out) hbr)
          have hbr' : decide ((4294967296 : Int) ≤ (r : Int) + (v1 : Int)) = false := decide_eq_false (by omega)
          clear hbr
          go_wp2
          go_round
          case rel => first | exact ⟨q - 1, r + v1, by go_num, by go_num, HN⟩ | exact ⟨q - 1, by omega, r + v1, by omega, HN⟩
          case measure => simp [intOf]; omega
        · have HD := hideP (est_break HE.out HU.out V1a.out V0b.out A1b.out (.inl HB.out) (by omega))
          have hbr' : 4294967296 ≤ (r : Int) + (v1 : Int) := by omega
          clear hbr
          have eq1 : (q : Int) - 1 = ((q - 1 : Nat) : Int) := by omega
          go_upto_region 21 with fail
          clear hbig' hbr' h1q hq64 hr64 eq1
          generalize q - 1 = p at HD ⊢
          have HP := HD
          go_wp2
          rw [un21N u a1 Y p (y_pos HN2.out) HN1.out (HP.out.trans (by rw [HYe.out]))]
          have hR : (u * 4294967296 + a1) % Y < Y := Nat.mod_lt _ (y_pos HN2.out)
          generalize hRR : (u * 4294967296 + a1) % Y = R at hR ⊢
          rw [quoN R v1 (Nat.lt_trans hR HN1.out), remN R v1 (Nat.lt_trans hR HN1.out)]
          have HR : Hid (R < v1 * 4294967296 + v0) := by show _ < _; rw [HYe.out]; exact hR
          have HRR := hideP hRR
          have H2 := hideP (est_start R v1 v0 a0 HR.out V1a.out V1b.out V0b.out A0b.out)
          clear hR hRR
          clear HE HD
          go_loop [18, 16] (fun sq sr => ∃ q r : Nat, sq = .int .u64 q ∧ sr = .int .u64 r ∧ Hid (Est R v1 v0 a0 q r)) (fun sq _ => (intOf sq).toNat)
          case atStart => exact ⟨_, _, rfl, rfl, H2⟩
          case round =>
            obtain ⟨q, r, rfl, rfl, HE⟩ := hrel
            have hq64 : q < 18446744073709551616 := est_q64 HE.out
            have hr64 : r + v1 < 18446744073709551616 := est_r64 HE.out V1b.out
            by_cases hbig : 4294967296 ≤ q
            · have HB := hideP hbig
              have hbig' : (4294967296 : Int) ≤ (q : Int) := by omega
              clear hbig
              have h1q := (est_down HE.out HR.out V1a.out V0b.out A0b.out (.inl HB.out)).1
              by_cases hbr : r + v1 < 4294967296
              · have HN := hideP (est_next HE.out HR.out V1a.out V0b.out A0b.out (.inl HB.out) hbr)
                have hbr' : decide ((4294967296 : Int) ≤ (r : Int) + (v1 : Int)) = false := decide_eq_false (by omega)
                clear hbr
                go_wp2
                go_round
                case rel => first | exact ⟨q - 1, r + v1, by go_num, by go_num, HN⟩ | exact ⟨q - 1, by omega, r + v1, by omega, HN⟩
                case measure => simp [intOf]; omega
              · have HD := hideP (est_break HE.out HR.out V1a.out V0b.out A0b.out (.inl HB.out) (by omega))
                have hbr' : 4294967296 ≤ (r : Int) + (v1 : Int) := by omega
                clear hbr
                have eq1 : (q : Int) - 1 = ((q - 1 : Nat) : Int) := by omega
                go_upto_region 28 with fail
                clear hbig' hbr' h1q hq64 hr64 eq1
                have HZ := hideP (div_end u v1 v0 Y a1 a0 p _ Q R HYe.out HN1.out HN2.out HU.out A1b.out A0b.out HP.out HRR.out HD.out C3.out)
                go_wp2
                go_ret2
                exact ⟨quoRet_mk HZ.out, 0, rfl⟩
            · have HS : Hid (q < 4294967296) := by show _ < _; omega
              have hbig' : decide ((4294967296 : Int) ≤ (q : Int)) = false := decide_eq_false (by omega)
              clear hbig
              have hm : ((q : Int) * (v0 : Int)) < 18446744073709551616 := est_mb HS.out V0b.out
              have hm0 : 0 ≤ ((q : Int) * (v0 : Int)) := by rw [Mul64.mulN]; exact Int.natCast_nonneg _
              have hra : 4294967296 * (r : Int) + (a0 : Int) < 18446744073709551616 := est_ra HE.out A0b.out
              by_cases ht : 4294967296 * r + a0 < q * v0
              · have HT := hideP ht
                have ht' : 4294967296 * (r : Int) + (a0 : Int) < (q : Int) * (v0 : Int) := by rw [Mul64.mulN]; omega
                clear ht
                have h1q := (est_down HE.out HR.out V1a.out V0b.out A0b.out (.inr HT.out)).1
                by_cases hbr : r + v1 < 4294967296
                · have HN := hideP (est_next HE.out HR.out V1a.out V0b.out A0b.out (.inr HT.out) hbr)
                  have hbr' : decide ((4294967296 : Int) ≤ (r : Int) + (v1 : Int)) = false := decide_eq_false (by omega)
                  clear hbr
                  go_wp2
                  go_round
                  case rel => first | exact ⟨q - 1, r + v1, by go_num, by go_num, HN⟩ | exact ⟨q - 1, by omega, r + v1, by omega, HN⟩
                  case measure => simp [intOf]; omega
                · have HD := hideP (est_break HE.out HR.out V1a.out V0b.out A0b.out (.inr HT.out) (by omega))
                  have hbr' : 4294967296 ≤ (r : Int) + (v1 : Int) := by omega
                  clear hbr
                  have eq1 : (q : Int) - 1 = ((q - 1 : Nat) : Int) := by omega
                  go_upto_region 28 with fail
                  clear hbig' hbr' h1q hq64 hr64 eq1
                  have HZ := hideP (div_end u v1 v0 Y a1 a0 p _ Q R HYe.out HN1.out HN2.out HU.out A1b.out A0b.out HP.out HRR.out HD.out C3.out)
                  go_wp2
                  go_ret2
                  exact ⟨quoRet_mk HZ.out, 0, rfl⟩
              · have ht' : decide (4294967296 * (r : Int) + (a0 : Int) < (q : Int) * (v0 : Int)) = false := decide_eq_false (by rw [Mul64.mulN]; omega)
                have HD := hideP (est_done HE.out (by omega))
                clear ht
                go_upto_if 113 with fail
                go_upto_region 28 with fail
                clear hbig' hm hm0 hra ht' hq64 hr64
                have HZ := hideP (div_end u v1 v0 Y a1 a0 p _ Q R HYe.out HN1.out HN2.out HU.out A1b.out A0b.out HP.out HRR.out HD.out C3.out)
                go_wp2
                go_ret2
                exact ⟨quoRet_mk HZ.out, 0, rfl⟩
      · have HS : Hid (q < 4294967296) := by show _ < _; omega
        have hbig' : decide ((4294967296 : Int) ≤ (q : Int)) = false := decide_eq_false (by omega)
        clear hbig
        have hm : ((q : Int) * (v0 : Int)) < 18446744073709551616 := est_mb HS.out V0b.out
        have hm0 : 0 ≤ ((q : Int) * (v0 : Int)) := by rw [Mul64.mulN]; exact Int.natCast_nonneg _
        have hra : 4294967296 * (r : Int) + (a1 : Int) < 18446744073709551616 := est_ra HE.out A1b.out
        by_cases ht : 4294967296 * r + a1 < q * v0
        · have HT := hideP ht
          have ht' : 4294967296 * (r : Int) + (a1 : Int) < (q : Int) * (v0 : Int) := by rw [Mul64.mulN]; omega
          clear ht
          have h1q := (est_down HE.out HU.out V1a.out V0b.out A1b.out (.inr HT.out)).1
          by_cases hbr : r + v1 < 4294967296
          · have HN := hideP (est_next HE.out HU.out V1a.out V0b.out A1b.out (.inr HT.out) hbr)
            have hbr' : decide ((4294967296 : Int) ≤ (r : Int) + (v1 : Int)) = false := decide_eq_false (by omega)
            clear hbr
            go_wp2
            go_round
            case rel => first | exact ⟨q - 1, r + v1, by go_num, by go_num, HN⟩ | exact ⟨q - 1, by omega, r + v1, by omega, HN⟩
            case measure => simp [intOf]; omega
          · have HD := hideP (est_break HE.out HU.out V1a.out V0b.out A1b.out (.inr HT.out) (by omega))
            have hbr' : 4294967296 ≤ (r : Int) + (v1 : Int) := by omega
            clear hbr
            have eq1 : (q : Int) - 1 = ((q - 1 : Nat) : Int) := by omega
            go_upto_region 21 with fail
            clear hbig' hbr' h1q hq64 hr64 eq1
            generalize q - 1 = p at HD ⊢
            have HP := HD
            go_wp2
            rw [un21N u a1 Y p (y_pos HN2.out) HN1.out (HP.out.trans (by rw [HYe.out]))]
            have hR : (u * 4294967296 + a1) % Y < Y := Nat.mod_lt _ (y_pos HN2.out)
            generalize hRR : (u * 4294967296 + a1) % Y = R at hR ⊢
            rw [quoN R v1 (Nat.lt_trans hR HN1.out), remN R v1 (Nat.lt_trans hR HN1.out)]
            have HR : Hid (R < v1 * 4294967296 + v0) := by show _ < _; rw [HYe.out]; exact hR
            have HRR := hideP hRR
            have H2 := hideP (est_start R v1 v0 a0 HR.out V1a.out V1b.out V0b.out A0b.out)
            clear hR hRR
            clear HE HD
            go_loop [18, 16] (fun sq sr => ∃ q r : Nat, sq = .int .u64 q ∧ sr = .int .u64 r ∧ Hid (Est R v1 v0 a0 q r)) (fun sq _ => (intOf sq).toNat)
            case atStart => exact ⟨_, _, rfl, rfl, H2⟩
            case round =>
              obtain ⟨q, r, rfl, rfl, HE⟩ := hrel
              have hq64 : q < 18446744073709551616 := est_q64 HE.out
              have hr64 : r + v1 < 18446744073709551616 := est_r64 HE.out V1b.out
              by_cases hbig : 4294967296 ≤ q
              · have HB := hideP hbig
                have hbig' : (4294967296 : Int) ≤ (q : Int) := by omega
                clear hbig
                have h1q := (est_down HE.out HR.out V1a.out V0b.out A0b.out (.inl HB.out)).1
                by_cases hbr : r + v1 < 4294967296
                · have HN := hideP (est_next HE.out HR.out V1a.out V0b.out A0b.out (.inl HB.out) hbr)
                  have hbr' : decide ((4294967296 : Int) ≤ (r : Int) + (v1 : Int)) = false := decide_eq_false (by omega)
                  clear hbr
                  go_wp2
                  go_round
                  case rel => first | exact ⟨q - 1, r + v1, by go_num, by go_num, HN⟩ | exact ⟨q - 1, by omega, r + v1, by omega, HN⟩
                  case measure => simp [intOf]; omega
                · have HD := hideP (est_break HE.out HR.out V1a.out V0b.out A0b.out (.inl HB.out) (by omega))
                  have hbr' : 4294967296 ≤ (r : Int) + (v1 : Int) := by omega
                  clear hbr
                  have eq1 : (q : Int) - 1 = ((q - 1 : Nat) : Int) := by omega
                  go_upto_region 28 with fail
                  clear hbig' hbr' h1q hq64 hr64 eq1
                  have HZ := hideP (div_end u v1 v0 Y a1 a0 p _ Q R HYe.out HN1.out HN2.out HU.out A1b.out A0b.out HP.out HRR.out HD.out C3.out)
                  go_wp2
                  go_ret2
                  exact ⟨quoRet_mk HZ.out, 0, rfl⟩
              · have HS : Hid (q < 4294967296) := by show _ < _; omega
                have hbig' : decide ((4294967296 : Int) ≤ (q : Int)) = false := decide_eq_false (by omega)
                clear hbig
                have hm : ((q : Int) * (v0 : Int)) < 18446744073709551616 := est_mb HS.out V0b.out
                have hm0 : 0 ≤ ((q : Int) * (v0 : Int)) := by rw [Mul64.mulN]; exact Int.natCast_nonneg _
                have hra : 4294967296 * (r : Int) + (a0 : Int) < 18446744073709551616 := est_ra HE.out A0b.out
                by_cases ht : 4294967296 * r + a0 < q * v0
                · have HT := hideP ht
                  have ht' : 4294967296 * (r : Int) + (a0 : Int) < (q : Int) * (v0 : Int) := by rw [Mul64.mulN]; omega
                  clear ht
                  have h1q := (est_down HE.out HR.out V1a.out V0b.out A0b.out (.inr HT.out)).1
                  by_cases hbr : r + v1 < 4294967296
                  · have HN := hideP (est_next HE.out HR.out V1a.out V0b.out A0b.out (.inr HT.out) hbr)
                    have hbr' : decide ((4294967296 : Int) ≤ (r : Int) + (v1 : Int)) = false := decide_eq_false (by omega)
                    clear hbr
                    go_wp2
                    go_round
                    case rel => first | exact ⟨q - 1, r + v1, by go_num, by go_num, HN⟩ | exact ⟨q - 1, by omega, r + v1, by omega, HN⟩
                    case measure => simp [intOf]; omega
                  · have HD := hideP (est_break HE.out HR.out V1a.out V0b.out A0b.out (.inr HT.out) (by omega))
                    have hbr' : 4294967296 ≤ (r : Int) + (v1 : Int) := by omega
                    clear hbr
                    have eq1 : (q : Int) - 1 = ((q - 1 : Nat) : Int) := by omega
                    go_upto_region 28 with fail
                    clear hbig' hbr' h1q hq64 hr64 eq1
                    have HZ := hideP (div_end u v1 v0 Y a1 a0 p _ Q R HYe.out HN1.out HN2.out HU.out A1b.out A0b.out HP.out HRR.out HD.out C3.out)
                    go_wp2
                    go_ret2
                    exact ⟨quoRet_mk HZ.out, 0, rfl⟩
                · have ht' : decide (4294967296 * (r : Int) + (a0 : Int) < (q : Int) * (v0 : Int)) = false := decide_eq_false (by rw [Mul64.mulN]; omega)
                  have HD := hideP (est_done HE.out (by omega))
                  clear ht
                  go_upto_if 113 with fail
                  go_upto_region 28 with fail
                  clear hbig' hm hm0 hra ht' hq64 hr64
                  have HZ := hideP (div_end u v1 v0 Y a1 a0 p _ Q R HYe.out HN1.out HN2.out HU.out A1b.out A0b.out HP.out HRR.out HD.out C3.out)
                  go_wp2
                  go_ret2
                  exact ⟨quoRet_mk HZ.out, 0, rfl⟩
        · have ht' : decide (4294967296 * (r : Int) + (a1 : Int) < (q : Int) * (v0 : Int)) = false := decide_eq_false (by rw [Mul64.mulN]; omega)
          have HD := hideP (est_done HE.out (by omega))
          clear ht
          go_upto_if 78 with fail
          go_upto_region 21 with fail
          clear hbig' hm hm0 hra ht' hq64 hr64
          obtain ⟨p, hp⟩ : ∃ p, p = q := ⟨_, rfl⟩
          rw [← hp] at HD ⊢
          clear hp
          have HP := HD
          go_wp2
          rw [un21N u a1 Y p (y_pos HN2.out) HN1.out (HP.out.trans (by rw [HYe.out]))]
          have hR : (u * 4294967296 + a1) % Y < Y := Nat.mod_lt _ (y_pos HN2.out)
          generalize hRR : (u * 4294967296 + a1) % Y = R at hR ⊢
          rw [quoN R v1 (Nat.lt_trans hR HN1.out), remN R v1 (Nat.lt_trans hR HN1.out)]
          have HR : Hid (R < v1 * 4294967296 + v0) := by show _ < _; rw [HYe.out]; exact hR
          have HRR := hideP hRR
          have H2 := hideP (est_start R v1 v0 a0 HR.out V1a.out V1b.out V0b.out A0b.out)
          clear hR hRR
          clear HE HD
          go_loop [18, 16] (fun sq sr => ∃ q r : Nat, sq = .int .u64 q ∧ sr = .int .u64 r ∧ Hid (Est R v1 v0 a0 q r)) (fun sq _ => (intOf sq).toNat)
          case atStart => exact ⟨_, _, rfl, rfl, H2⟩
          case round =>
            obtain ⟨q, r, rfl, rfl, HE⟩ := hrel
            have hq64 : q < 18446744073709551616 := est_q64 HE.out
            have hr64 : r + v1 < 18446744073709551616 := est_r64 HE.out V1b.out
            by_cases hbig : 4294967296 ≤ q
            · have HB := hideP hbig
              have hbig' : (4294967296 : Int) ≤ (q : Int) := by omega
              clear hbig
              have h1q := (est_down HE.out HR.out V1a.out V0b.out A0b.out (.inl HB.out)).1
              by_cases hbr : r + v1 < 4294967296
              · have HN := hideP (est_next HE.out HR.out V1a.out V0b.out A0b.out (.inl HB.out) hbr)
                have hbr' : decide ((4294967296 : Int) ≤ (r : Int) + (v1 : Int)) = false := decide_eq_false (by omega)
                clear hbr
                go_wp2
                go_round
                case rel => first | exact ⟨q - 1, r + v1, by go_num, by go_num, HN⟩ | exact ⟨q - 1, by omega, r + v1, by omega, HN⟩
                case measure => simp [intOf]; omega
              · have HD := hideP (est_break HE.out HR.out V1a.out V0b.out A0b.out (.inl HB.out) (by omega))
                have hbr' : 4294967296 ≤ (r : Int) + (v1 : Int) := by omega
                clear hbr
                have eq1 : (q : Int) - 1 = ((q - 1 : Nat) : Int) := by omega
                go_upto_region 28 with fail
                clear hbig' hbr' h1q hq64 hr64 eq1
                have HZ := hideP (div_end u v1 v0 Y a1 a0 p _ Q R HYe.out HN1.out HN2.out HU.out A1b.out A0b.out HP.out HRR.out HD.out C3.out)
                go_wp2
                go_ret2
                exact ⟨quoRet_mk HZ.out, 0, rfl⟩
            · have HS : Hid (q < 4294967296) := by show _ < _; omega
              have hbig' : decide ((4294967296 : Int) ≤ (q : Int)) = false := decide_eq_false (by omega)
              clear hbig
              have hm : ((q : Int) * (v0 : Int)) < 18446744073709551616 := est_mb HS.out V0b.out
              have hm0 : 0 ≤ ((q : Int) * (v0 : Int)) := by rw [Mul64.mulN]; exact Int.natCast_nonneg _
              have hra : 4294967296 * (r : Int) + (a0 : Int) < 18446744073709551616 := est_ra HE.out A0b.out
              by_cases ht : 4294967296 * r + a0 < q * v0
              · have HT := hideP ht
                have ht' : 4294967296 * (r : Int) + (a0 : Int) < (q : Int) * (v0 : Int) := by rw [Mul64.mulN]; omega
                clear ht
                have h1q := (est_down HE.out HR.out V1a.out V0b.out A0b.out (.inr HT.out)).1
                by_cases hbr : r + v1 < 4294967296
                · have HN := hideP (est_next HE.out HR.out V1a.out V0b.out A0b.out (.inr HT.out) hbr)
                  have hbr' : decide ((4294967296 : Int) ≤ (r : Int) + (v1 : Int)) = false := decide_eq_false (by omega)
                  clear hbr
                  go_wp2
                  go_round
                  case rel => first | exact ⟨q - 1, r + v1, by go_num, by go_num, HN⟩ | exact ⟨q - 1, by omega, r + v1, by omega, HN⟩
                  case measure => simp [intOf]; omega
                · have HD := hideP (est_break HE.out HR.out V1a.out V0b.out A0b.out (.inr HT.out) (by omega))
                  have hbr' : 4294967296 ≤ (r : Int) + (v1 : Int) := by omega
                  clear hbr
                  have eq1 : (q : Int) - 1 = ((q - 1 : Nat) : Int) := by omega
                  go_upto_region 28 with fail
                  clear hbig' hbr' h1q hq64 hr64 eq1
                  have HZ := hideP (div_end u v1 v0 Y a1 a0 p _ Q R HYe.out HN1.out HN2.out HU.out A1b.out A0b.out HP.out HRR.out HD.out C3.out)
                  go_wp2
                  go_ret2
                  exact ⟨quoRet_mk HZ.out, 0, rfl⟩
              · have ht' : decide (4294967296 * (r : Int) + (a0 : Int) < (q : Int) * (v0 : Int)) = false := decide_eq_false (by rw [Mul64.mulN]; omega)
                have HD := hideP (est_done HE.out (by omega))
                clear ht
                go_upto_if 113 with fail
                go_upto_region 28 with fail
                clear hbig' hm hm0 hra ht' hq64 hr64
                have HZ := hideP (div_end u v1 v0 Y a1 a0 p _ Q R HYe.out HN1.out HN2.out HU.out A1b.out A0b.out HP.out HRR.out HD.out C3.out)
                go_wp2
                go_ret2
                exact ⟨quoRet_mk HZ.out, 0, rfl⟩
end Go.Proofs.Qxb6608745a
