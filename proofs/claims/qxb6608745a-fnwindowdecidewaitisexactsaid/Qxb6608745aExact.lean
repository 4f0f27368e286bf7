import Derived.Test.Qxb6608745aStep
import Derived.Deep.DeepCutAuto
namespace Go.Proofs.Qxb6608745a
open Go.RowKit
set_option linter.unusedVariables false

set_option maxRecDepth 100000 in
set_option maxHeartbeats 4000000 in
theorem exact_main (n L S k : Nat) (now : Int) (hn : In now) (hS : 1 ≤ S) (hSL : S ≤ L) (hL : L ≤ 9223372036854775807) (hn2 : n ≤ 9223372036854775807) (hk : k ≤ 4096) (w : World) :
    Calls Try.prog 6 #[.int .i64 n, .int .i64 L, .int .i64 S, .int .i64 now, .int .i64 k] w fun e w' => e = .returned (.bool true) ∧ Below w.heap.size w w' := by
  have hji := slotI_in hS hSL hn
  obtain ⟨want, hwant⟩ : ∃ want, want = exWant n L S now := ⟨_, rfl⟩
  have HWT := hideP hwant
  have HN := hideP hn
  have HL := hideP hL
  have HN2 := hideP hn2
  have HSL := hideP hSL
  have CS := hideP (zzSlotOf_any L S now hn hS hSL hL)
  have CW := hideP (zzWaitFor_any L S (slotI L S now) now hn hji hS hSL hL (by omega))
  have HWV : Hid (1 ≤ n → waitV L S (slotI L S now) now = want) := fun h => by rw [hwant]; exact (if_neg (by omega)).symm
  have hk0 : (decide ((k : Int) < 0)) = false := by simp
  have hn0 : (decide ((n : Int) < 0)) = false := by simp
  have hk1 : (decide ((4096 : Int) < (k : Int))) = false := decide_eq_false (by omega)
  have hs1 : (decide ((S : Int) < 1)) = false := decide_eq_false (by omega)
  have hls : (decide ((L : Int) < (S : Int))) = false := decide_eq_false (by omega)
  have hls' : decide (L < S) = false := decide_eq_false (by omega)
  clear hwant hji hSL hn hL hn2
  go_enter Try.func6, Try.ntmps6
  go_wp2_with fail
  refine (newLimit_any n L S w).mono ?_
  rintro e w1 ⟨rfl, rfl⟩
  have HL1 : Hid (Blk (w.alloc (.cells #[.int .i64 n, .int .i64 L, .int .i64 S] 37)) w.heap.size (lim n L S)) := Blk.new _ _ _
  have HB1 : Hid (Below w.heap.size w (w.alloc (.cells #[.int .i64 n, .int .i64 L, .int .i64 S] 37))) := (Below.refl _ _).alloc (Nat.le_refl _) _
  generalize w.alloc (.cells #[.int .i64 n, .int .i64 L, .int .i64 S] 37) = W1 at HL1 HB1 ⊢
  generalize hlb : w.heap.size = lb at HL1 HB1 ⊢
  have HLB := hideP hlb
  clear hlb
  go_wp2_with fail
  refine (newWindow_any _ W1).mono ?_
  rintro e w1 ⟨rfl, rfl⟩
  have HW2 : Hid (Blk (W1.alloc (.cells #[.int .i64 (-9223372036854775808), .int .i64 0, .int .i64 0, .int .i64 0, .pointer none] 42)) W1.heap.size (exWin n (slotI L S now) 0)) := Blk.new _ _ _
  have HL2 : Hid (Blk (W1.alloc (.cells #[.int .i64 (-9223372036854775808), .int .i64 0, .int .i64 0, .int .i64 0, .pointer none] 42)) lb (lim n L S)) := HL1.out.alloc _
  have HB2 : Hid (Below lb w (W1.alloc (.cells #[.int .i64 (-9223372036854775808), .int .i64 0, .int .i64 0, .int .i64 0, .pointer none] 42))) := HB1.out.alloc (Nat.le_of_lt HL1.out.lt) _
  have HLT := hideP HL1.out.lt
  generalize W1.alloc (.cells #[.int .i64 (-9223372036854775808), .int .i64 0, .int .i64 0, .int .i64 0, .pointer none] 42) = W2 at HW2 HL2 HB2 ⊢
  generalize W1.heap.size = wb at HW2 HLT ⊢
  clear HL1 HB1
  go_upto_if 44 with fail
  go_cut [13] (fun s13 wx => s13 = .int .i64 want ∧ wx = W2)
  case first =>
    by_cases hz : n = 0
    · have hz' : decide (0 < (n : Int)) = false := decide_eq_false (by omega)
      have HF : Hid (want = 9223372036854775807) := HWT.out.trans (if_pos hz)
      go_wp2
      go_meet
      case rel => exact ⟨by rw [HF.out], rfl⟩
    · have hz' : decide (0 < (n : Int)) = true := decide_eq_true (by omega)
      have HF := hideP (HWV.out (by omega))
      go_wp2_with fail
      refine (CS.out W2).mono ?_
      rintro e w1 ⟨rfl, h1⟩
      subst w1
      go_wp2_with fail
      refine (CW.out W2).mono ?_
      rintro e w1 ⟨rfl, h1⟩
      subst w1
      rw [HF.out]
      go_wp2
      go_meet
      case rel => exact ⟨rfl, rfl⟩
  case rest =>
    obtain ⟨rfl, rfl⟩ := hcut
    go_wp2
    go_loopg [14, 15, 16, 17] (k + 1) (fun g s14 s15 s16 s17 wr => ∃ i : Nat, i ≤ k + 1 ∧ k + 1 - i ≤ g ∧ s15 = .int .i64 i ∧ s14 = .bool (decide (n < i)) ∧ Hid (Blk wr wb (exWin n (slotI L S now) i)) ∧ Hid (Below wb wc wr))
    case atStart => exact ⟨0, by omega, by omega, rfl, by simp, HW2, Below.refl _ _⟩
    case round =>
      obtain ⟨i, hi, hg, rfl, rfl, HWi, HBi⟩ := hrel
      by_cases hle : i ≤ k
      · have ST := hideP (step_any wb lb n L S now HN.out hS HSL.out HL.out HN2.out HLT.out i wr HWi.out (HL2.out.below HBi.out HLT.out))
        go_wp2_with fail
        refine ST.out.mono ?_
        rintro e w2 ⟨rfl, hb, hbel⟩
        have HW3 := hideP hb
        have HB3 := hideP (HBi.out.trans hbel)
        clear hb hbel ST
        by_cases hin : i < n
        · have hin' : decide ((i : Int) < (n : Int)) = true := decide_eq_true (by omega)
          rw [decide_eq_true hin, if_pos hin]
          go_wp2
          go_roundg (gk - 1)
          case measure => omega
          case rel => exact ⟨i + 1, by omega, by omega, by go_num, by rw [decide_eq_false (show ¬ n < i by omega), decide_eq_false (show ¬ n < i + 1 by omega)], HW3, HB3⟩
        · have hin' : decide ((i : Int) < (n : Int)) = false := decide_eq_false (by omega)
          rw [decide_eq_false hin, if_neg hin, ← HWT.out]
          go_wp2
          go_roundg (gk - 1)
          case measure => omega
          case rel => exact ⟨i + 1, by omega, by omega, by go_num, by rw [decide_eq_true (show n < i + 1 by omega)], HW3, HB3⟩
      · obtain rfl : i = k + 1 := by omega
        by_cases hrf : n < k + 1
        · rw [decide_eq_true hrf]
          by_cases hnv : want = 9223372036854775807
          · subst hnv
            go_wp2
            go_ret
            exact ⟨rfl, HLB.out ▸ HB2.out.trans (HBi.out.mono (Nat.le_of_lt HLT.out))⟩
          · have hnv' : (want == 9223372036854775807) = false := beq_eq_false_iff_ne.2 hnv
            have hne : exWant n L S now ≠ 9223372036854775807 := by rw [← HWT.out]; exact hnv
            have WI := want_is wb lb n L S now HN.out hS HSL.out HL.out HN2.out HLT.out hne
            rw [← HWT.out] at WI
            have hat1 : now + want ≤ 9223372036854775807 := by omega
            have hat0 : -9223372036854775808 < now + want := by have := HN.out.1; omega
            have SB := hideP (step_before wb lb n L S now HN.out hS HSL.out HL.out HN2.out HLT.out hne (k + 1) hrf wr HWi.out (HL2.out.below HBi.out HLT.out))
            rw [← HWT.out] at SB
            have HNE := hideP hne
            clear hnv hne WI
            go_wp2_with fail
            refine SB.out.mono ?_
            rintro e w2 ⟨rfl, ⟨c, hc, hb⟩, hbel⟩
            have SA := hideP (step_at wb lb n L S now HN.out hS HSL.out HL.out HN2.out HLT.out HNE.out c hc w2 hb (HL2.out.below (HBi.out.trans hbel) HLT.out))
            rw [← HWT.out] at SA
            have HB3 := hideP (HBi.out.trans hbel)
            clear hb hbel SB hc
            go_wp2_with fail
            refine SA.out.mono ?_
            rintro e w3 ⟨rfl, hbel⟩
            have HB4 := hideP (HB3.out.trans hbel)
            clear hbel
            go_wp2
            go_ret
            exact ⟨rfl, HLB.out ▸ HB2.out.trans (HB4.out.mono (Nat.le_of_lt HLT.out))⟩
        · rw [decide_eq_false hrf]
          go_wp2
          go_ret
          exact ⟨rfl, HLB.out ▸ HB2.out.trans (HBi.out.mono (Nat.le_of_lt HLT.out))⟩

/-- Out of its bounds: true at once. -/
theorem exact_out (n L S now k : Int) (h : k < 0 ∨ 4096 < k ∨ n < 0 ∨ S < 1 ∨ L < S) (w : World) :
    Calls Try.prog 6 #[.int .i64 n, .int .i64 L, .int .i64 S, .int .i64 now, .int .i64 k] w fun e w' => e = .returned (.bool true) ∧ Below w.heap.size w w' := by
  by_cases h1 : k < 0
  · have b1 : decide (k < 0) = true := decide_eq_true h1
    go_enter Try.func6, Try.ntmps6
    go_wp2
    go_ret
    exact ⟨rfl, Below.refl _ _⟩
  have b1 : decide (k < 0) = false := decide_eq_false h1
  by_cases h2 : 4096 < k
  · have b2 : decide (4096 < k) = true := decide_eq_true h2
    go_enter Try.func6, Try.ntmps6
    go_wp2
    go_ret
    exact ⟨rfl, Below.refl _ _⟩
  have b2 : decide (4096 < k) = false := decide_eq_false h2
  by_cases h3 : n < 0
  · have b3 : decide (n < 0) = true := decide_eq_true h3
    go_enter Try.func6, Try.ntmps6
    go_wp2
    go_ret
    exact ⟨rfl, Below.refl _ _⟩
  have b3 : decide (n < 0) = false := decide_eq_false h3
  by_cases h4 : S < 1
  · have b4 : decide (S < 1) = true := decide_eq_true h4
    go_enter Try.func6, Try.ntmps6
    go_wp2
    go_ret
    exact ⟨rfl, Below.refl _ _⟩
  have b4 : decide (S < 1) = false := decide_eq_false h4
  have h5 : L < S := by omega
  have b5 : decide (L < S) = true := decide_eq_true h5
  clear h
  go_enter Try.func6, Try.ntmps6
  go_wp2
  go_ret
  exact ⟨rfl, Below.refl _ _⟩

theorem exact_any (n L S now k : Int) (hn : In n) (hL : In L) (hS : In S) (hnow : In now) (hk : In k) (w : World) :
    Calls Try.prog 6 #[.int .i64 n, .int .i64 L, .int .i64 S, .int .i64 now, .int .i64 k] w fun e w' => e = .returned (.bool true) ∧ Below w.heap.size w w' := by
  by_cases h : k < 0 ∨ 4096 < k ∨ n < 0 ∨ S < 1 ∨ L < S
  · exact exact_out n L S now k h w
  · obtain ⟨n', rfl⟩ : ∃ n' : Nat, n = n' := ⟨n.toNat, by omega⟩
    obtain ⟨L', rfl⟩ : ∃ n' : Nat, L = n' := ⟨L.toNat, by omega⟩
    obtain ⟨S', rfl⟩ : ∃ n' : Nat, S = n' := ⟨S.toNat, by omega⟩
    obtain ⟨k', rfl⟩ : ∃ n' : Nat, k = n' := ⟨k.toNat, by omega⟩
    exact exact_main n' L' S' k' now hnow (by omega) (by omega) (by have := hL.2; omega) (by have := hn.2; omega) (by omega) w
end Go.Proofs.Qxb6608745a
