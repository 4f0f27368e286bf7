import Derived.Test.Qxb6608745aFresh
namespace Go.Proofs.Qxb6608745a
open Go.RowKit
set_option linter.unusedVariables false

/-- The blocks that a window's own work leaves as they were: those ahead of it, and kb. -/
def KK (wb kb : Nat) (b : Nat) : Prop := b < wb ∨ b = kb

structure IsRing (w : World) (wb kb rb bb m head : Nat) (es : List (Int × Int)) : Prop where
  lr : wb < rb
  nr : rb ≠ kb
  lb : wb < bb
  nb : bb ≠ kb
  ne : rb ≠ bb
  ring : Blk w rb (ringV bb m head es.length)
  buf : RB w bb m head es
  pow : ∃ e, m = 2 ^ e
  hd : head < m
  le : es.length ≤ m
  bd : m ≤ 10000

def RingAt (w : World) (wb kb : Nat) (p : Value) (es : List (Int × Int)) : Prop :=
  (p = .pointer none ∧ es = []) ∨ ∃ rb bb m head, p = .pointer (some ⟨rb, 0, none⟩) ∧ IsRing w wb kb rb bb m head es

theorem IsRing.keep {P : Nat → Prop} {w w' : World} {wb kb rb bb m head : Nat} {es : List (Int × Int)} (h : IsRing w wb kb rb bb m head es) (hk : Keep P w w') (hp : ∀ b, wb < b → b ≠ kb → P b) : IsRing w' wb kb rb bb m head es :=
  ⟨h.lr, h.nr, h.lb, h.nb, h.ne, hk.blk h.ring (hp _ h.lr h.nr), h.buf.keep hk (hp _ h.lb h.nb), h.pow, h.hd, h.le, h.bd⟩

theorem RingAt.keep {P : Nat → Prop} {w w' : World} {wb kb : Nat} {p : Value} {es : List (Int × Int)} (h : RingAt w wb kb p es) (hk : Keep P w w') (hp : ∀ b, wb < b → b ≠ kb → P b) : RingAt w' wb kb p es := by
  rcases h with h | ⟨rb, bb, m, head, rfl, h⟩
  · exact .inl h
  · exact .inr ⟨rb, bb, m, head, rfl, h.keep hk hp⟩

theorem Keep.all {P : Nat → Prop} {w w' : World} (h : Keep (fun _ => True) w w') : Keep P w w' := h.mono (fun _ _ => trivial)

/-- One more at the ring's end. -/
theorem push_any (wb kb rb bb m head : Nat) (es : List (Int × Int)) (s k : Int) (w : World) (h : IsRing w wb kb rb bb m head es) (hn : es.length < 4097) (hkb : kb < w.heap.size) (hwb : wb < w.heap.size) :
    Calls Try.prog 30 #[.pointer (some ⟨rb, 0, none⟩), .agg #[.int .i64 s, .int .i64 k]] w fun e w' => e = .returned (.tuple #[]) ∧
      RingAt w' wb kb (.pointer (some ⟨rb, 0, none⟩)) (es ++ [(s, k)]) ∧ Keep (fun b => b ≤ wb ∨ b = kb) w w' := by
  by_cases hl : es.length < m
  · refine (pushRoom_any rb bb m head es s k h.bd h.pow h.hd hl h.ne w h.ring h.buf).mono ?_
    rintro e w' ⟨rfl, h1, h2, h3⟩
    refine ⟨rfl, .inr ⟨rb, bb, m, head, rfl, h.lr, h.nr, h.lb, h.nb, h.ne, ?_, h2, h.pow, h.hd, by simp; omega, h.bd⟩, h3.mono fun b hb => ?_⟩
    · simpa using h1
    · have := h.lr; have := h.lb; have := h.nr; have := h.nb
      omega
  · have hm : m = es.length := by have := h.le; omega
    subst hm
    refine (pushGrow_any rb bb es.length head es s k rfl (by have := h.hd; omega) (by omega) h.pow h.hd h.ne w h.ring h.buf).mono ?_
    rintro e w' ⟨rfl, g, hg, h1, h2, h3⟩
    have hpow : ∃ e, 2 * es.length = 2 ^ e := by
      obtain ⟨x, hx⟩ := h.pow
      exact ⟨x + 1, by rw [Nat.pow_succ, ← hx, Nat.mul_comm]⟩
    have hrl := h.ring.lt
    have hhd := h.hd
    refine ⟨rfl, .inr ⟨rb, g, 2 * es.length, 0, rfl, h.lr, h.nr, by omega, by omega, by omega, ?_, h2, hpow, by omega, by rw [List.length_append]; simp; omega, by omega⟩, h3.mono fun b hb => ?_⟩
    · simpa using h1
    · have := h.lr; have := h.nr
      omega

/-- The first of a new ring. -/
theorem pushNew_any (wb kb rb : Nat) (s k : Int) (w : World) (h : Blk w rb [.slice none 0 0, .int .i64 0, .int .i64 0]) (lr : wb < rb) (nr : rb ≠ kb) (hkb : kb < w.heap.size) (hwb : wb < w.heap.size) :
    Calls Try.prog 30 #[.pointer (some ⟨rb, 0, none⟩), .agg #[.int .i64 s, .int .i64 k]] w fun e w' => e = .returned (.tuple #[]) ∧
      RingAt w' wb kb (.pointer (some ⟨rb, 0, none⟩)) [(s, k)] ∧ Keep (fun b => b ≤ wb ∨ b = kb) w w' := by
  refine (pushFresh_any rb s k w h).mono ?_
  rintro e w' ⟨rfl, g, hg, h1, h2, h3⟩
  have hrl := h.lt
  refine ⟨rfl, .inr ⟨rb, g, 2, 0, rfl, lr, nr, by omega, by omega, by omega, h1, h2, ⟨1, rfl⟩, by omega, by simp, by omega⟩, h3.mono fun b hb => ?_⟩
  omega

set_option maxHeartbeats 1000000 in
/-- The newest slot has left: all is reset. -/
theorem leaveReset_any (wb lb kb n L S : Nat) (c t s k : Int) (p : Value) (es : List (Int × Int)) (hc : In c) (hs : In s) (hle : s + S ≤ c) (hk : 1 ≤ k) (hS : 1 ≤ S) (hS2 : S ≤ 9223372036854775807) (w : World)
    (hw : Blk w wb (win c t s k p)) (hl : Blk w lb (lim n L S)) (hr : RingAt w wb kb p es) (hne : wb ≠ kb) :
    Calls Try.prog 20 #[.pointer (some ⟨wb, 0, none⟩), .pointer (some ⟨lb, 0, none⟩)] w fun e w' => e = .returned (.tuple #[]) ∧ Blk w' wb (win c 0 0 0 p) ∧ RingAt w' wb kb p [] ∧ Keep (KK wb kb) w w' := by
  have c2 := hw.cell 2 _ rfl
  have c3 := hw.cell 3 _ rfl
  have c4 := hw.cell 4 _ rfl
  have c1 := hw.cell 1 _ rfl
  have f1 := hw.free 1 (by simp [win])
  have f2 := hw.free 2 (by simp [win])
  have f3 := hw.free 3 (by simp [win])
  have hkz : (k == 0) = false := by rw [beq_eq_false_iff_ne]; omega
  have C := hideP (gone_any wb lb n L S c t s k s p hc hs (by omega) hS hS2 w hw hl)
  have HD : Hid (decide ((S : Int) ≤ c - s) = true) := decide_eq_true (by omega)
  have hnK : ¬ KK wb kb wb := by unfold KK; omega
  have HW5 : Hid (∀ m : Nat, Blk ((((w.drewN m).setCell ⟨wb, 1, none⟩ (.int .i64 0)).setCell ⟨wb, 2, none⟩ (.int .i64 0)).setCell ⟨wb, 3, none⟩ (.int .i64 0)) wb (win c 0 0 0 p)) := fun m => (((hw.drew m).set 1 (by simp [win]) _).set 2 (by simp [win]) _).set 3 (by simp [win]) _
  have HK5 : Hid (∀ (P : Nat → Prop) (m : Nat), ¬ P wb → Keep P w ((((w.drewN m).setCell ⟨wb, 1, none⟩ (.int .i64 0)).setCell ⟨wb, 2, none⟩ (.int .i64 0)).setCell ⟨wb, 3, none⟩ (.int .i64 0))) := fun P m h => ((((Keep.refl P w).drewN m).set wb _ _ h).set wb _ _ h).set wb _ _ h
  have HNK := hideP hnK
  have HNE := hideP hne
  rcases hr with ⟨rfl, rfl⟩ | ⟨rb, bb, m0, head, rfl, hR⟩
  · clear hw hl hc hs hle hk hS2 hnK hne
    go_enter Try.func20, Try.ntmps20
    go_wp2_with fail
    refine C.out.mono ?_
    rintro e w1 ⟨rfl, m, hm⟩
    subst hm
    rw [HD.out]
    go_wp2
    first | (refine bodyPost_ret (results_none rfl _ _ _) rfl ?_) | (refine bodyPost_end (results_none rfl _ _ _) rfl ?_)
    exact ⟨rfl, HW5.out m, .inl ⟨rfl, rfl⟩, HK5.out _ m HNK.out⟩
  · have HR := hideP hR
    clear hw hl hc hs hle hk hS2 hnK hR hne
    go_enter Try.func20, Try.ntmps20
    go_wp2_with fail
    refine C.out.mono ?_
    rintro e w1 ⟨rfl, m, hm⟩
    subst hm
    rw [HD.out]
    go_wp2_with fail
    have hR5 := HR.out.keep (HK5.out (fun b => b ≠ wb) m (by simp)) (fun b h1 h2 => by omega)
    refine (clear_any rb bb m0 head _ _ hR5.ring).mono ?_
    rintro e w1 ⟨rfl, k1, k2⟩
    have HF : Hid (Blk w1 wb (win c 0 0 0 (.pointer (some ⟨rb, 0, none⟩))) ∧ RingAt w1 wb kb (.pointer (some ⟨rb, 0, none⟩)) [] ∧ Keep (KK wb kb) w w1) := by
      have hlr := hR5.lr
      have hnr := hR5.nr
      refine ⟨k2.blk (HW5.out m) (by omega), .inr ⟨rb, bb, m0, 0, rfl, hR5.lr, hR5.nr, hR5.lb, hR5.nb, hR5.ne, k1, ?_, hR5.pow, by have := hR5.hd; omega, by simp, hR5.bd⟩, (HK5.out _ m HNK.out).trans (k2.mono fun b hb => by unfold KK at hb; omega)⟩
      have hb := hR5.buf.keep k2 (Ne.symm hR5.ne)
      exact ⟨hb.lt, hb.room, hb.free, fun i hi => by simp at hi⟩
    clear k1 k2 hR5
    go_wp2
    first | (refine bodyPost_ret (results_none rfl _ _ _) rfl ?_) | (refine bodyPost_end (results_none rfl _ _ _) rfl ?_)
    exact ⟨rfl, HF.out⟩
end Go.Proofs.Qxb6608745a
