import Derived.Test.Qxb6608745aWaitR
namespace Go.Proofs.Qxb6608745a
open Go.RowKit
set_option linter.unusedVariables false

theorem not_KK {wb kb : Nat} (h : wb ≠ kb) : ¬ KK wb kb wb := by unfold KK; omega

set_option maxHeartbeats 1000000 in
theorem admit1_any (wb kb : Nat) (c t s : Int) (p : Value) (es : List (Int × Int)) (ht : 0 ≤ t) (ht2 : t < 9223372036854775807) (hne : wb ≠ kb) (w : World) (hw : Blk w wb (win c t s 0 p)) (hr : RingAt w wb kb p es) :
    Calls Try.prog 21 #[.pointer (some ⟨wb, 0, none⟩)] w fun e w' => e = .returned (.tuple #[]) ∧ Blk w' wb (win c (t + 1) c 1 p) ∧ RingAt w' wb kb p es ∧ Keep (KK wb kb) w w' := by
  have c0 := hw.cell 0 _ rfl
  have c1 := hw.cell 1 _ rfl
  have c2 := hw.cell 2 _ rfl
  have c3 := hw.cell 3 _ rfl
  have f1 := hw.free 1 (by simp [win])
  have f2 := hw.free 2 (by simp [win])
  have f3 := hw.free 3 (by simp [win])
  have HW := hideP hw
  have HR := hideP hr
  have HNE := hideP hne
  clear hw hr hne
  go_enter Try.func21, Try.ntmps21
  go_wp2
  first | (refine bodyPost_ret (results_none rfl _ _ _) rfl ?_) | (refine bodyPost_end (results_none rfl _ _ _) rfl ?_)
  have K : ∀ P : Nat → Prop, ¬ P wb → Keep P w (((w.setCell ⟨wb, 2, none⟩ (.int .i64 c)).setCell ⟨wb, 3, none⟩ (.int .i64 1)).setCell ⟨wb, 1, none⟩ (.int .i64 (t + 1))) := fun P h => (((Keep.refl _ _).set wb _ _ h).set wb _ _ h).set wb _ _ h
  exact ⟨rfl, ((HW.out.set 2 (by simp [win]) _).set 3 (by simp [win]) _).set 1 (by simp [win]) _, HR.out.keep (K (fun b => b ≠ wb) (by simp)) (fun b h _ => by omega), K _ (not_KK HNE.out)⟩

set_option maxHeartbeats 1000000 in
theorem admit2_any (wb kb : Nat) (c t k : Int) (p : Value) (es : List (Int × Int)) (ht : 0 ≤ t) (ht2 : t < 9223372036854775807) (hk : 1 ≤ k) (hk2 : k < 9223372036854775807) (hne : wb ≠ kb) (w : World) (hw : Blk w wb (win c t c k p)) (hr : RingAt w wb kb p es) :
    Calls Try.prog 21 #[.pointer (some ⟨wb, 0, none⟩)] w fun e w' => e = .returned (.tuple #[]) ∧ Blk w' wb (win c (t + 1) c (k + 1) p) ∧ RingAt w' wb kb p es ∧ Keep (KK wb kb) w w' := by
  have c0 := hw.cell 0 _ rfl
  have c1 := hw.cell 1 _ rfl
  have c2 := hw.cell 2 _ rfl
  have c3 := hw.cell 3 _ rfl
  have f1 := hw.free 1 (by simp [win])
  have f2 := hw.free 2 (by simp [win])
  have f3 := hw.free 3 (by simp [win])
  have hkz : (k == 0) = false := by rw [beq_eq_false_iff_ne]; omega
  have HW := hideP hw
  have HR := hideP hr
  have HNE := hideP hne
  clear hw hr hne
  go_enter Try.func21, Try.ntmps21
  go_wp2
  go_quiet (fail)
  go_wp2
  first | (refine bodyPost_ret (results_none rfl _ _ _) rfl ?_) | (refine bodyPost_end (results_none rfl _ _ _) rfl ?_)
  have K : ∀ P : Nat → Prop, ¬ P wb → Keep P w (((w.drewN nq).setCell ⟨wb, 3, none⟩ (.int .i64 (k + 1))).setCell ⟨wb, 1, none⟩ (.int .i64 (t + 1))) := fun P h => (((Keep.refl _ _).drewN nq).set wb _ _ h).set wb _ _ h
  exact ⟨rfl, ((HW.out.drew _).set 3 (by simp [win]) _).set 1 (by simp [win]) _, HR.out.keep (K (fun b => b ≠ wb) (by simp)) (fun b h _ => by omega), K _ (not_KK HNE.out)⟩

set_option maxHeartbeats 2000000 in
theorem admit3_any (wb kb rb bb m0 head : Nat) (c t s k : Int) (es : List (Int × Int)) (ht : 0 ≤ t) (ht2 : t < 9223372036854775807) (hk : 1 ≤ k) (hsc : s ≠ c) (hne : wb ≠ kb) (w : World) (hw : Blk w wb (win c t s k (.pointer (some ⟨rb, 0, none⟩))))
    (hr : IsRing w wb kb rb bb m0 head es) (hn : es.length < 4097) (hkb : kb < w.heap.size) :
    Calls Try.prog 21 #[.pointer (some ⟨wb, 0, none⟩)] w fun e w' => e = .returned (.tuple #[]) ∧ Blk w' wb (win c (t + 1) c 1 (.pointer (some ⟨rb, 0, none⟩))) ∧ RingAt w' wb kb (.pointer (some ⟨rb, 0, none⟩)) (es ++ [(s, k)]) ∧ Keep (KK wb kb) w w' := by
  have c0 := hw.cell 0 _ rfl
  have c1 := hw.cell 1 _ rfl
  have c2 := hw.cell 2 _ rfl
  have c3 := hw.cell 3 _ rfl
  have c4 := hw.cell 4 _ rfl
  have hkz : (k == 0) = false := by rw [beq_eq_false_iff_ne]; omega
  have hsz : (s == c) = false := beq_eq_false_iff_ne.2 hsc
  have HW := hideP hw
  have HR := hideP hr
  have HNE := hideP hne
  have PU : Hid (∀ W, Keep (fun _ => True) w W → Calls Try.prog 30 #[.pointer (some ⟨rb, 0, none⟩), .agg #[.int .i64 s, .int .i64 k]] W fun e w' => e = .returned (.tuple #[]) ∧ RingAt w' wb kb (.pointer (some ⟨rb, 0, none⟩)) (es ++ [(s, k)]) ∧ Keep (fun b => b ≤ wb ∨ b = kb) W w') := fun W hW =>
    push_any wb kb rb bb m0 head es s k W (hr.keep hW (fun _ _ _ => trivial)) hn (by have := hW.size; omega) (by have := hW.size; have := hw.lt; omega)
  clear hw hr hne hsc
  go_enter Try.func21, Try.ntmps21
  go_wp2
  go_quiet (fail)
  go_wp2_with fail
  go_region_with (go_at_call 30; refine (PU.out _ (by first | exact (Keep.refl _ w).drewN _ | exact ((Keep.refl _ w).drewN _).drew)).mono ?_; rintro e4 w4 ⟨rfl, hR4, hK4⟩)
  all_goals
    have KW4 : Hid (Keep (fun b => b ≤ wb ∨ b = kb) w w4) := Keep.trans (by first | exact (Keep.refl _ w).drewN _ | exact ((Keep.refl _ w).drewN _).drew) hK4
    have hW4 := KW4.out.blk HW.out (.inl (Nat.le_refl _))
    have HR4 := hideP hR4
    have HW4 := hideP hW4
    have d0 := hW4.cell 0 _ rfl
    have d1 := hW4.cell 1 _ rfl
    have d2 := hW4.cell 2 _ rfl
    have d3 := hW4.cell 3 _ rfl
    have f1 := hW4.free 1 (by simp [win])
    have f2 := hW4.free 2 (by simp [win])
    have f3 := hW4.free 3 (by simp [win])
    clear c0 c1 c2 c3 c4 hR4 hK4 hW4
    go_wp2
    first | (refine bodyPost_ret (results_none rfl _ _ _) rfl ?_) | (refine bodyPost_end (results_none rfl _ _ _) rfl ?_)
    have K : ∀ P : Nat → Prop, ¬ P wb → Keep P w4 (((w4.setCell ⟨wb, 2, none⟩ (.int .i64 c)).setCell ⟨wb, 3, none⟩ (.int .i64 1)).setCell ⟨wb, 1, none⟩ (.int .i64 (t + 1))) := fun P h => (((Keep.refl _ _).set wb _ _ h).set wb _ _ h).set wb _ _ h
    exact ⟨rfl, ((HW4.out.set 2 (by simp [win]) _).set 3 (by simp [win]) _).set 1 (by simp [win]) _, HR4.out.keep (K (fun b => b ≠ wb) (by simp)) (fun b h _ => by omega), (KW4.out.mono (fun b hb => by unfold KK at hb; omega)).trans (K _ (not_KK HNE.out))⟩

set_option maxHeartbeats 2000000 in
theorem admit4_any (wb kb : Nat) (c t s k : Int) (ht : 0 ≤ t) (ht2 : t < 9223372036854775807) (hk : 1 ≤ k) (hsc : s ≠ c) (hne : wb ≠ kb) (w : World) (hw : Blk w wb (win c t s k (.pointer none))) (hkb : kb < w.heap.size) :
    Calls Try.prog 21 #[.pointer (some ⟨wb, 0, none⟩)] w fun e w' => e = .returned (.tuple #[]) ∧ ∃ p, Blk w' wb (win c (t + 1) c 1 p) ∧ RingAt w' wb kb p [(s, k)] ∧ Keep (KK wb kb) w w' := by
  have c0 := hw.cell 0 _ rfl
  have c1 := hw.cell 1 _ rfl
  have c2 := hw.cell 2 _ rfl
  have c3 := hw.cell 3 _ rfl
  have c4 := hw.cell 4 _ rfl
  have f4 := hw.free 4 (by simp [win])
  have lw := hw.lt
  have hkz : (k == 0) = false := by rw [beq_eq_false_iff_ne]; omega
  have hsz : (s == c) = false := beq_eq_false_iff_ne.2 hsc
  have HW := hideP hw
  have HNE := hideP hne
  clear hw hne hsc
  go_enter Try.func21, Try.ntmps21
  go_wp2
  go_quiet (fail)
  have hA := (HW.out.drew nq).alloc (.cells #[.slice none 0 0, .int .i64 0, .int .i64 0] 59)
  have e4 := hA.cell 4 _ rfl
  have g4 := hA.free 4 (by simp [win])
  have hB : Blk ((w.drewN nq).alloc (.cells #[.slice none 0 0, .int .i64 0, .int .i64 0] 59)) w.heap.size [.slice none 0 0, .int .i64 0, .int .i64 0] := Blk.new (w.drewN nq) _ _
  have HW2 : Hid (Blk (((w.drewN nq).alloc (.cells #[.slice none 0 0, .int .i64 0, .int .i64 0] 59)).setCell ⟨wb, 4, none⟩ (.pointer (some ⟨w.heap.size, 0, none⟩))) wb (win c t s k (.pointer (some ⟨w.heap.size, 0, none⟩)))) := hA.set 4 (by simp [win]) _
  have HB2 : Hid (Blk (((w.drewN nq).alloc (.cells #[.slice none 0 0, .int .i64 0, .int .i64 0] 59)).setCell ⟨wb, 4, none⟩ (.pointer (some ⟨w.heap.size, 0, none⟩))) w.heap.size [.slice none 0 0, .int .i64 0, .int .i64 0]) := hB.far wb _ _ (by omega)
  have HK2 : Hid (Keep (KK wb kb) w (((w.drewN nq).alloc (.cells #[.slice none 0 0, .int .i64 0, .int .i64 0] 59)).setCell ⟨wb, 4, none⟩ (.pointer (some ⟨w.heap.size, 0, none⟩)))) := (((Keep.refl _ w).drewN nq).alloc _).set wb _ _ (not_KK HNE.out)
  clear hA hB
  go_upto_region 2 with fail
  generalize ((w.drewN nq).alloc (.cells #[.slice none 0 0, .int .i64 0, .int .i64 0] 59)).setCell ⟨wb, 4, none⟩ (.pointer (some ⟨w.heap.size, 0, none⟩)) = W2 at HW2 HB2 HK2 ⊢
  clear e4 g4 c0 c1 c2 c3 c4 f4
  have lrb : wb < w.heap.size := lw
  have nrb : w.heap.size ≠ kb := by omega
  have hk2 : kb < W2.heap.size := by have := HK2.out.size; omega
  generalize w.heap.size = rb at HW2 HB2 lrb nrb ⊢
  have PU : Hid (∀ W, Keep (fun _ => True) W2 W → Calls Try.prog 30 #[.pointer (some ⟨rb, 0, none⟩), .agg #[.int .i64 s, .int .i64 k]] W fun e w' => e = .returned (.tuple #[]) ∧ RingAt w' wb kb (.pointer (some ⟨rb, 0, none⟩)) [(s, k)] ∧ Keep (fun b => b ≤ wb ∨ b = kb) W w') := fun W hW =>
    pushNew_any wb kb rb s k W (hW.blk HB2.out trivial) lrb nrb (by have := hW.size; omega) (by have := hW.size; have := HW2.out.lt; omega)
  have c0 := HW2.out.cell 0 _ rfl
  have c1 := HW2.out.cell 1 _ rfl
  have c2 := HW2.out.cell 2 _ rfl
  have c3 := HW2.out.cell 3 _ rfl
  have c4 := HW2.out.cell 4 _ rfl
  go_region_with (go_at_call 30; refine (PU.out _ (by first | exact (Keep.refl _ W2).drewN _ | exact (Keep.refl _ W2).drew)).mono ?_; rintro e4 w4 ⟨rfl, hR4, hK4⟩)
  all_goals
    have KW4 : Hid (Keep (fun b => b ≤ wb ∨ b = kb) W2 w4) := Keep.trans (by first | exact (Keep.refl _ W2).drewN _ | exact (Keep.refl _ W2).drew) hK4
    have hW4 := KW4.out.blk HW2.out (.inl (Nat.le_refl _))
    have HR4 := hideP hR4
    have HW4 := hideP hW4
    have d0 := hW4.cell 0 _ rfl
    have d1 := hW4.cell 1 _ rfl
    have d2 := hW4.cell 2 _ rfl
    have d3 := hW4.cell 3 _ rfl
    have f1 := hW4.free 1 (by simp [win])
    have f2 := hW4.free 2 (by simp [win])
    have f3 := hW4.free 3 (by simp [win])
    clear c0 c1 c2 c3 c4 hR4 hK4 hW4
    go_wp2
    first | (refine bodyPost_ret (results_none rfl _ _ _) rfl ?_) | (refine bodyPost_end (results_none rfl _ _ _) rfl ?_)
    have K : ∀ P : Nat → Prop, ¬ P wb → Keep P w4 (((w4.setCell ⟨wb, 2, none⟩ (.int .i64 c)).setCell ⟨wb, 3, none⟩ (.int .i64 1)).setCell ⟨wb, 1, none⟩ (.int .i64 (t + 1))) := fun P h => (((Keep.refl _ _).set wb _ _ h).set wb _ _ h).set wb _ _ h
    exact ⟨rfl, _, ((HW4.out.set 2 (by simp [win]) _).set 3 (by simp [win]) _).set 1 (by simp [win]) _, HR4.out.keep (K (fun b => b ≠ wb) (by simp)) (fun b h _ => by omega), (HK2.out.trans (KW4.out.mono (fun b hb => by unfold KK at hb; omega))).trans (K _ (not_KK HNE.out))⟩
end Go.Proofs.Qxb6608745a
