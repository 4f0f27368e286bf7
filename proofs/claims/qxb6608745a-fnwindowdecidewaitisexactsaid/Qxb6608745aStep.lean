import Derived.Test.Qxb6608745aDec
namespace Go.Proofs.Qxb6608745a
open Go.RowKit
set_option linter.unusedVariables false

/-- The window behind i requests in slot j. -/
def exWin (n : Nat) (j : Int) (i : Nat) : List Value :=
  if i = 0 then win (-9223372036854775808) 0 0 0 (.pointer none) else win j ((min i n : Nat) : Int) (if n = 0 then 0 else j) ((min i n : Nat) : Int) (.pointer none)

def exWant (n L S : Nat) (now : Int) : Int := if n = 0 then 9223372036854775807 else waitV L S (slotI L S now) now

theorem set0 (c t s k x : Int) (o : Value) : (win c t s k o).set 0 (.int .i64 x) = win x t s k o := rfl

theorem slot_le_max {L S : Nat} (hS : 1 ≤ S) (hSL : S ≤ L) {now : Int} (hn : In now) : slotI L S now ≤ slotI L S 9223372036854775807 :=
  slotI_mono (by omega) hS hn.2

theorem step_first (wb lb n L S : Nat) (now : Int) (hn : In now) (hS : 1 ≤ S) (hSL : S ≤ L) (hL : L ≤ 9223372036854775807) (hn2 : n ≤ 9223372036854775807) (hlb : lb < wb) (w : World) (hw : Blk w wb (exWin n (slotI L S now) 0)) (hl : Blk w lb (lim n L S)) :
    Calls Try.prog 12 #[.pointer (some ⟨wb, 0, none⟩), .pointer (some ⟨lb, 0, none⟩), .int .i64 now] w fun e w' =>
      e = .returned (.tuple #[.bool (decide (0 < n)), .int .i64 (if 0 < n then 0 else exWant n L S now)]) ∧ Blk w' wb (exWin n (slotI L S now) 1) ∧ Below wb w w' := by
  have hji := slotI_in hS hSL hn
  have hw' : Blk w wb (win (-9223372036854775808) 0 0 0 (.pointer none)) := hw
  by_cases hz : n = 0
  · subst hz
    have e1 : exWin 0 (slotI L S now) 1 = win (slotI L S now) 0 0 0 (.pointer none) := by simp [exWin]
    have e2 : (if 0 < 0 then (0 : Int) else exWant 0 L S now) = 9223372036854775807 := by simp [exWant]
    rw [e1, e2]
    apply zzDecide_any (R := fun w' => Blk w' wb (win (slotI L S now) 0 0 0 (.pointer none)) ∧ Below wb w w')
    by_cases hj : slotI L S now ≤ -9223372036854775808
    · have e3 : slotI L S now = -9223372036854775808 := by have := hji.1; omega
      refine decide_stay_refuse wb lb 0 L S _ _ _ _ now _ w hn hS hSL hL hw' hl (by omega) (by omega) _ 9223372036854775807 fun m => ?_
      refine (waitZero_any wb lb L S now _ (hl.drew m)).mono ?_
      rintro e w1 ⟨rfl, m2, rfl⟩
      rw [e3]
      exact ⟨rfl, (hw'.drew _).drew _, below_drewN (below_drewN (Below.refl _ _) _) _⟩
    · refine decide_move_refuse wb lb 0 L S _ _ _ _ now _ w hn hS hSL hL hw' hl (by omega) 0 (by omega) (fun w1 => Blk w1 wb (win (slotI L S now) 0 0 0 (.pointer none)) ∧ Below wb w w1) _ 9223372036854775807 (fun m => ?_) (fun w1 h => ⟨h.1.cell 1 _ rfl, (hl.below h.2 hlb).cell 0 _ rfl⟩) (fun w1 m h => ?_)
      · have hb := (hw'.drew m).set 0 (by simp [win]) (.int .i64 (slotI L S now))
        refine (leaveNone_any wb lb _ _ _ _ _ hb).mono ?_
        rintro e w1 ⟨rfl, rfl⟩
        exact ⟨rfl, hb, below_set (below_drewN (Below.refl _ _) _) _ _⟩
      · refine (waitZero_any wb lb L S now _ ((hl.below h.2 hlb).drew m)).mono ?_
        rintro e w2 ⟨rfl, m2, rfl⟩
        exact ⟨rfl, (h.1.drew _).drew _, below_drewN (below_drewN h.2 _) _⟩
  · have hpos : 0 < n := by omega
    have e1 : exWin n (slotI L S now) 1 = win (slotI L S now) (0 + 1) (slotI L S now) 1 (.pointer none) := by
      have : min 1 n = 1 := by omega
      simp [exWin, hz, this]
    rw [e1, if_pos hpos, decide_eq_true hpos]
    apply zzDecide_any (R := fun w' => Blk w' wb (win (slotI L S now) (0 + 1) (slotI L S now) 1 (.pointer none)) ∧ Below wb w w')
    by_cases hj : slotI L S now ≤ -9223372036854775808
    · have e3 : slotI L S now = -9223372036854775808 := by have := hji.1; omega
      refine decide_stay_admit wb lb n L S _ _ _ _ now _ w hn hS hSL hL hw' hl (by omega) (by omega) _ fun m => ?_
      refine (admitFirst_any wb _ _ _ _ (by omega) (by omega) _ (hw'.drew m)).mono ?_
      rintro e w1 ⟨rfl, hb, hbel⟩
      rw [e3]
      exact ⟨rfl, hb, (below_drewN (Below.refl _ _) _).trans hbel⟩
    · refine decide_move_admit wb lb n L S _ _ _ _ now _ w hn hS hSL hL hw' hl (by omega) 0 (by omega) (fun w1 => Blk w1 wb (win (slotI L S now) 0 0 0 (.pointer none)) ∧ Below wb w w1) _ (fun m => ?_) (fun w1 h => ⟨h.1.cell 1 _ rfl, (hl.below h.2 hlb).cell 0 _ rfl⟩) (fun w1 m h => ?_)
      · have hb := (hw'.drew m).set 0 (by simp [win]) (.int .i64 (slotI L S now))
        refine (leaveNone_any wb lb _ _ _ _ _ hb).mono ?_
        rintro e w1 ⟨rfl, rfl⟩
        exact ⟨rfl, hb, below_set (below_drewN (Below.refl _ _) _) _ _⟩
      · refine (admitFirst_any wb _ _ _ _ (by omega) (by omega) _ (h.1.drew m)).mono ?_
        rintro e w2 ⟨rfl, hb, hbel⟩
        exact ⟨rfl, hb, (below_drewN h.2 _).trans hbel⟩

theorem step_later (wb lb n L S : Nat) (now : Int) (hn : In now) (hS : 1 ≤ S) (hSL : S ≤ L) (hL : L ≤ 9223372036854775807) (hn2 : n ≤ 9223372036854775807) (hlb : lb < wb) (i : Nat) (hi : 1 ≤ i) (w : World) (hw : Blk w wb (exWin n (slotI L S now) i)) (hl : Blk w lb (lim n L S)) :
    Calls Try.prog 12 #[.pointer (some ⟨wb, 0, none⟩), .pointer (some ⟨lb, 0, none⟩), .int .i64 now] w fun e w' =>
      e = .returned (.tuple #[.bool (decide (i < n)), .int .i64 (if i < n then 0 else exWant n L S now)]) ∧ Blk w' wb (exWin n (slotI L S now) (i + 1)) ∧ Below wb w w' := by
  have hji := slotI_in hS hSL hn
  have hiz : i ≠ 0 := by omega
  by_cases hz : n = 0
  · subst hz
    have e0 : exWin 0 (slotI L S now) i = win (slotI L S now) 0 0 0 (.pointer none) := by simp [exWin, hiz]
    have e1 : exWin 0 (slotI L S now) (i + 1) = win (slotI L S now) 0 0 0 (.pointer none) := by simp [exWin]
    have e2 : (if i < 0 then (0 : Int) else exWant 0 L S now) = 9223372036854775807 := by simp [exWant]
    have e3 : decide (i < 0) = false := by simp
    rw [e0] at hw
    rw [e1, e2, e3]
    apply zzDecide_any (R := fun w' => Blk w' wb (win (slotI L S now) 0 0 0 (.pointer none)) ∧ Below wb w w')
    refine decide_stay_refuse wb lb 0 L S _ _ _ _ now _ w hn hS hSL hL hw hl (by omega) (by omega) _ 9223372036854775807 fun m => ?_
    refine (waitZero_any wb lb L S now _ (hl.drew m)).mono ?_
    rintro e w1 ⟨rfl, m2, rfl⟩
    exact ⟨rfl, (hw.drew _).drew _, below_drewN (below_drewN (Below.refl _ _) _) _⟩
  · by_cases hin : i < n
    · have e0 : exWin n (slotI L S now) i = win (slotI L S now) i (slotI L S now) i (.pointer none) := by
        have : min i n = i := by omega
        simp only [exWin, if_neg hiz, if_neg hz, this]
      have e1 : exWin n (slotI L S now) (i + 1) = win (slotI L S now) ((i : Int) + 1) (slotI L S now) ((i : Int) + 1) (.pointer none) := by
        have : min (i + 1) n = i + 1 := by omega
        simp only [exWin, if_neg (show i + 1 ≠ 0 by omega), if_neg hz, this, Int.natCast_add, Int.cast_ofNat_Int]
      rw [e0] at hw
      rw [e1, if_pos hin, decide_eq_true hin]
      apply zzDecide_any (R := fun w' => Blk w' wb (win (slotI L S now) ((i : Int) + 1) (slotI L S now) ((i : Int) + 1) (.pointer none)) ∧ Below wb w w')
      refine decide_stay_admit wb lb n L S _ _ _ _ now _ w hn hS hSL hL hw hl (by omega) (by omega) _ fun m => ?_
      refine (admitMore_any wb _ _ _ _ (by omega) (by omega) (by omega) (by omega) _ (hw.drew m)).mono ?_
      rintro e w1 ⟨rfl, hb, hbel⟩
      exact ⟨rfl, hb, (below_drewN (Below.refl _ _) _).trans hbel⟩
    · have e0 : exWin n (slotI L S now) i = win (slotI L S now) n (slotI L S now) n (.pointer none) := by
        have : min i n = n := by omega
        simp only [exWin, if_neg hiz, if_neg hz, this]
      have e1 : exWin n (slotI L S now) (i + 1) = win (slotI L S now) n (slotI L S now) n (.pointer none) := by
        have : min (i + 1) n = n := by omega
        simp only [exWin, if_neg (show i + 1 ≠ 0 by omega), if_neg hz, this]
      have e2 : exWant n L S now = waitV L S (slotI L S now) now := if_neg hz
      rw [e0] at hw
      rw [e1, if_neg hin, decide_eq_false hin, e2]
      apply zzDecide_any (R := fun w' => Blk w' wb (win (slotI L S now) n (slotI L S now) n (.pointer none)) ∧ Below wb w w')
      refine decide_stay_refuse wb lb n L S _ _ _ _ now _ w hn hS hSL hL hw hl (by omega) (by omega) _ _ fun m => ?_
      refine (waitNil_any wb lb n L S _ _ _ _ now hn hji hS hSL hL (by omega) (slot_le_max hS hSL hn) _ (hw.drew m) (hl.drew m) (by omega) hn2).mono ?_
      rintro e w1 ⟨rfl, m2, rfl⟩
      exact ⟨rfl, (hw.drew _).drew _, below_drewN (below_drewN (Below.refl _ _) _) _⟩

theorem step_any (wb lb n L S : Nat) (now : Int) (hn : In now) (hS : 1 ≤ S) (hSL : S ≤ L) (hL : L ≤ 9223372036854775807) (hn2 : n ≤ 9223372036854775807) (hlb : lb < wb) (i : Nat) (w : World) (hw : Blk w wb (exWin n (slotI L S now) i)) (hl : Blk w lb (lim n L S)) :
    Calls Try.prog 12 #[.pointer (some ⟨wb, 0, none⟩), .pointer (some ⟨lb, 0, none⟩), .int .i64 now] w fun e w' =>
      e = .returned (.tuple #[.bool (decide (i < n)), .int .i64 (if i < n then 0 else exWant n L S now)]) ∧ Blk w' wb (exWin n (slotI L S now) (i + 1)) ∧ Below wb w w' := by
  by_cases hi : i = 0
  · subst hi
    exact step_first wb lb n L S now hn hS hSL hL hn2 hlb w hw hl
  · exact step_later wb lb n L S now hn hS hSL hL hn2 hlb i (by omega) w hw hl

/-- Behind a refusal whose wait is no Never: its end is a time. -/
theorem want_is (wb lb n L S : Nat) (now : Int) (hn : In now) (hS : 1 ≤ S) (hSL : S ≤ L) (hL : L ≤ 9223372036854775807) (hn2 : n ≤ 9223372036854775807) (hlb : lb < wb) (h : exWant n L S now ≠ 9223372036854775807) : 1 ≤ n ∧ slotI L S now + S ≤ 9223372036854775807 ∧ now + exWant n L S now = startI L S (slotI L S now + S) ∧ startI L S (slotI L S now + S) ≤ 9223372036854775807 ∧ now < startI L S (slotI L S now + S) := by
  unfold exWant at h ⊢
  split at h
  · exact absurd rfl h
  · rename_i hz
    rw [if_neg hz]
    unfold waitV at h ⊢
    split at h
    · rename_i hc
      rw [if_pos hc]
      exact ⟨by omega, hc.1, by omega, hc.2.1, (galois_lt (by omega) hS now _).1 (by omega)⟩
    · exact absurd rfl h

theorem step_before (wb lb n L S : Nat) (now : Int) (hn : In now) (hS : 1 ≤ S) (hSL : S ≤ L) (hL : L ≤ 9223372036854775807) (hn2 : n ≤ 9223372036854775807) (hlb : lb < wb) (h : exWant n L S now ≠ 9223372036854775807) (i : Nat) (hi : n < i) (w : World) (hw : Blk w wb (exWin n (slotI L S now) i)) (hl : Blk w lb (lim n L S)) :
    Calls Try.prog 12 #[.pointer (some ⟨wb, 0, none⟩), .pointer (some ⟨lb, 0, none⟩), .int .i64 (now + exWant n L S now - 1)] w fun e w' =>
      e = .returned (.tuple #[.bool false, .int .i64 1]) ∧ (∃ c, c < slotI L S now + S ∧ Blk w' wb (win c n (slotI L S now) n (.pointer none))) ∧ Below wb w w' := by
  obtain ⟨h1, h2, h3, h4, h5⟩ := want_is wb lb n L S now hn hS hSL hL hn2 hlb h
  have hji := slotI_in hS hSL hn
  have e0 : exWin n (slotI L S now) i = win (slotI L S now) n (slotI L S now) n (.pointer none) := by
    have : min i n = n := by omega
    simp only [exWin, if_neg (show i ≠ 0 by omega), if_neg (show n ≠ 0 by omega), this]
  rw [e0] at hw
  rw [h3]
  generalize hA : startI L S (slotI L S now + S) = A at *
  have hin : In (A - 1) := ⟨by have := hn.1; omega, by omega⟩
  have hlt : slotI L S (A - 1) < slotI L S now + S := (galois_lt (by omega) hS (A - 1) _).2 (by omega)
  have hwv : waitV L S (slotI L S now) (A - 1) = 1 := by
    unfold waitV
    rw [hA, if_pos ⟨h2, h4, by omega⟩]
    omega
  have hmx := slot_le_max hS hSL hn
  apply zzDecide_any (R := fun w' => (∃ c, c < slotI L S now + S ∧ Blk w' wb (win c n (slotI L S now) n (.pointer none))) ∧ Below wb w w')
  by_cases hj : slotI L S (A - 1) ≤ slotI L S now
  · refine decide_stay_refuse wb lb n L S _ _ _ _ (A - 1) _ w hin hS hSL hL hw hl hj (by omega) _ _ fun m => ?_
    refine (waitNil_any wb lb n L S _ _ _ _ (A - 1) hin hji hS hSL hL hlt hmx _ (hw.drew m) (hl.drew m) h1 hn2).mono ?_
    rintro e w1 ⟨rfl, m2, rfl⟩
    rw [hwv]
    exact ⟨rfl, ⟨_, by omega, (hw.drew _).drew _⟩, below_drewN (below_drewN (Below.refl _ _) _) _⟩
  · refine decide_move_refuse wb lb n L S _ _ _ _ (A - 1) _ w hin hS hSL hL hw hl (by omega) n (by omega) (fun w1 => Blk w1 wb (win (slotI L S (A - 1)) n (slotI L S now) n (.pointer none)) ∧ Below wb w w1) _ _ (fun m => ?_) (fun w1 h => ⟨h.1.cell 1 _ rfl, (hl.below h.2 hlb).cell 0 _ rfl⟩) (fun w1 m h => ?_)
    · have hb := (hw.drew m).set 0 (by simp [win]) (.int .i64 (slotI L S (A - 1)))
      refine (leaveKeep_any wb lb n L S _ _ _ _ (slotI_in hS hSL hin) hji (by omega) hlt (by omega) hS (by omega) _ hb ((hl.drew m).far wb 0 _ (by omega))).mono ?_
      rintro e w1 ⟨rfl, m2, rfl⟩
      exact ⟨rfl, hb.drew _, below_drewN (below_set (below_drewN (Below.refl _ _) _) _ _) _⟩
    · refine (waitNil_any wb lb n L S _ _ _ _ (A - 1) hin hji hS hSL hL hlt hmx _ (h.1.drew m) ((hl.below h.2 hlb).drew m) h1 hn2).mono ?_
      rintro e w2 ⟨rfl, m2, rfl⟩
      rw [hwv]
      exact ⟨rfl, ⟨_, hlt, (h.1.drew _).drew _⟩, below_drewN (below_drewN h.2 _) _⟩

theorem step_at (wb lb n L S : Nat) (now : Int) (hn : In now) (hS : 1 ≤ S) (hSL : S ≤ L) (hL : L ≤ 9223372036854775807) (hn2 : n ≤ 9223372036854775807) (hlb : lb < wb) (h : exWant n L S now ≠ 9223372036854775807) (c : Int) (hc : c < slotI L S now + S) (w : World) (hw : Blk w wb (win c n (slotI L S now) n (.pointer none))) (hl : Blk w lb (lim n L S)) :
    Calls Try.prog 12 #[.pointer (some ⟨wb, 0, none⟩), .pointer (some ⟨lb, 0, none⟩), .int .i64 (now + exWant n L S now)] w fun e w' =>
      e = .returned (.tuple #[.bool true, .int .i64 0]) ∧ Below wb w w' := by
  obtain ⟨h1, h2, h3, h4, h5⟩ := want_is wb lb n L S now hn hS hSL hL hn2 hlb h
  have hji := slotI_in hS hSL hn
  rw [h3]
  generalize hA : startI L S (slotI L S now + S) = A at *
  have hin : In A := ⟨by have := hn.1; omega, h4⟩
  have hge : slotI L S now + S ≤ slotI L S A := (galois (by omega) hS A _).2 (by omega)
  apply zzDecide_any (R := fun w' => Below wb w w')
  refine decide_move_admit wb lb n L S _ _ _ _ A _ w hin hS hSL hL hw hl (by omega) 0 (by omega) (fun w1 => Blk w1 wb (win (slotI L S A) 0 0 0 (.pointer none)) ∧ Below wb w w1) _ (fun m => ?_) (fun w1 h => ⟨h.1.cell 1 _ rfl, (hl.below h.2 hlb).cell 0 _ rfl⟩) (fun w1 m h => ?_)
  · have hb := (hw.drew m).set 0 (by simp [win]) (.int .i64 (slotI L S A))
    refine (leaveGone_any wb lb n L S _ _ _ _ (slotI_in hS hSL hin) hji hge (by omega) hS (by omega) _ hb ((hl.drew m).far wb 0 _ (by omega))).mono ?_
    rintro e w1 ⟨rfl, hb1, hbel⟩
    exact ⟨rfl, hb1, (below_set (below_drewN (Below.refl _ _) _) _ _).trans hbel⟩
  · refine (admitFirst_any wb _ _ _ _ (by omega) (by omega) _ (h.1.drew m)).mono ?_
    rintro e w2 ⟨rfl, hb, hbel⟩
    exact ⟨rfl, (below_drewN h.2 _).trans hbel⟩
end Go.Proofs.Qxb6608745a
