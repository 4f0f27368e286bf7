import Derived.Test.Qxb6608745aSpan
namespace Go.Proofs.Qxb6608745a
open Go.RowKit
set_option linter.unusedVariables false

/-- The window in memory. -/
def WinAt (w : World) (wb kb : Nat) (c : Int) (es : List (Int × Int)) (s k : Int) (p : Value) : Prop := Blk w wb (win c (tot es + k) s k p) ∧ RingAt w wb kb p es

theorem WinAt.keep {w w' : World} {wb kb : Nat} {c : Int} {es : List (Int × Int)} {s k : Int} {p : Value} (h : WinAt w wb kb c es s k p) (hk : Keep (fun _ => True) w w') : WinAt w' wb kb c es s k p :=
  ⟨hk.blk h.1 trivial, h.2.keep hk (fun _ _ _ => trivial)⟩

theorem Good.length {s : Int} : ∀ {es : List (Int × Int)}, Good s es → (es.length : Int) ≤ tot es
  | [], _ => Int.le_refl _
  | e :: r, h => by have := Good.length h.2.2.2; have := h.2.1; simp only [List.length_cons, tot, Int.natCast_add]; omega

theorem Span.bound {S : Nat} {K : List Int} {c : Int} {es : List (Int × Int)} {s k : Int} (h : Span S K c es s k) (hK : K.length ≤ 4096) : 0 ≤ tot es ∧ tot es + k ≤ 4096 ∧ es.length < 4097 := by
  have h1 := h.len
  have h2 : (K.filter (inB S c)).length ≤ K.length := List.length_filter_le _ _
  have h3 := h.good.nonneg
  have h4 := h.good.length
  have h5 := h.k0
  omega

/-- The clock behind a request. -/
def clock (L S : Nat) (c now : Int) : Int := if c < slotI L S now then slotI L S now else c

theorem leave_span (wb lb kb n L S : Nat) (hS : 1 ≤ S) (hSL : S ≤ L) (hL : L ≤ 9223372036854775807) (hn2 : n ≤ 9223372036854775807) (hlb : lb < wb) (hne : wb ≠ kb) (K : List Int) (c now : Int) (es : List (Int × Int)) (s k : Int) (p : Value) (w : World) (hn : In now) (hc : In c) (hK : K.length ≤ 4096) (h : Span S K c es s k) (hw : WinAt w wb kb c es s k p) (hl : Blk w lb (lim n L S))
    (hj : c < slotI L S now) :
    ∃ es1 s1 k1, Span S K (slotI L S now) es1 s1 k1 ∧ ∀ m, Calls Try.prog 20 #[.pointer (some ⟨wb, 0, none⟩), .pointer (some ⟨lb, 0, none⟩)] ((w.drewN m).setCell ⟨wb, 0, none⟩ (.int .i64 (slotI L S now))) fun e w' =>
      e = .returned (.tuple #[]) ∧ WinAt w' wb kb (slotI L S now) es1 s1 k1 p ∧ Keep (KK wb kb) w w' := by
  have hji := slotI_in hS hSL hn
  obtain ⟨b1, b2, b3⟩ := h.bound hK
  generalize slotI L S now = j at *
  have hw0 : ∀ m, Blk ((w.drewN m).setCell ⟨wb, 0, none⟩ (.int .i64 j)) wb (win j (tot es + k) s k p) := fun m => (hw.1.drew m).set 0 (by simp [win]) _
  have hk0 : ∀ (P : Nat → Prop) m, ¬ P wb → Keep P w ((w.drewN m).setCell ⟨wb, 0, none⟩ (.int .i64 j)) := fun P m hp => ((Keep.refl P w).drewN m).set wb _ _ hp
  have hr0 : ∀ m, RingAt ((w.drewN m).setCell ⟨wb, 0, none⟩ (.int .i64 j)) wb kb p es := fun m => hw.2.keep (hk0 (fun b => b ≠ wb) m (by simp)) (fun b h _ => by omega)
  have hl0 : ∀ m, Blk ((w.drewN m).setCell ⟨wb, 0, none⟩ (.int .i64 j)) lb (lim n L S) := fun m => (hl.drew m).far wb 0 _ (by omega)
  by_cases hz : k = 0
  · refine ⟨es, s, k, h.moveNone (by omega) hz, fun m => ?_⟩
    subst hz
    refine (leaveNone_any wb lb _ _ _ _ _ (hw0 m)).mono ?_
    rintro e w1 ⟨rfl, rfl⟩
    exact ⟨rfl, ⟨hw0 m, hr0 m⟩, hk0 _ m (not_KK hne)⟩
  · have hk1 : 1 ≤ k := by have := h.k0; omega
    obtain ⟨hs1, hs2, hs3⟩ := h.sIn hk1
    by_cases hg : s + S ≤ j
    · refine ⟨[], 0, 0, h.moveReset (by omega) hg, fun m => ?_⟩
      refine (leaveReset_any wb lb kb n L S j _ s k p es hji hs1 hg hk1 hS (by omega) _ (hw0 m) (hl0 m) (hr0 m) hne).mono ?_
      rintro e w1 ⟨rfl, x1, x2, x3⟩
      exact ⟨rfl, ⟨x1, x2⟩, (hk0 _ m (not_KK hne)).trans x3⟩
    · refine ⟨_, s, k, h.moveDrop (by omega) hk1 (by omega) (by omega), fun m => ?_⟩
      refine (leaveDrop_any wb lb kb n L S j s k p es hji hs1 (by omega) (by omega) hk1 hS (by omega) _ (hw0 m) (hl0 m) (hr0 m) hne hlb h.good (by omega)).mono ?_
      rintro e w1 ⟨rfl, x1, x2, x3⟩
      exact ⟨rfl, ⟨x1, x2⟩, (hk0 _ m (not_KK hne)).trans x3⟩

theorem admit_span (wb lb kb n L S : Nat) (hS : 1 ≤ S) (hSL : S ≤ L) (hL : L ≤ 9223372036854775807) (hn2 : n ≤ 9223372036854775807) (hlb : lb < wb) (hne : wb ≠ kb) (K : List Int) (c : Int) (es : List (Int × Int)) (s k : Int) (hc : In c) (hK : K.length ≤ 4096) (h : Span S K c es s k) :
    ∃ es2 s2 k2, Span S (K ++ [c]) c es2 s2 k2 ∧ ∀ (W : World) (p : Value), WinAt W wb kb c es s k p → kb < W.heap.size → Calls Try.prog 21 #[.pointer (some ⟨wb, 0, none⟩)] W fun e w' =>
      e = .returned (.tuple #[]) ∧ ∃ p2, WinAt w' wb kb c es2 s2 k2 p2 ∧ Keep (KK wb kb) W w' := by
  obtain ⟨b1, b2, b3⟩ := h.bound hK
  by_cases hz : k = 0
  · subst hz
    have he := h.none rfl
    subst he
    refine ⟨[], c, 1, h.admit1 hS hc, fun W p hW hkb => ?_⟩
    refine (admit1_any wb kb c _ s p [] (by simp [tot]) (by simp [tot]) hne W hW.1 hW.2).mono ?_
    rintro e w1 ⟨rfl, x1, x2, x3⟩
    exact ⟨rfl, p, ⟨x1, x2⟩, x3⟩
  · have hk1 : 1 ≤ k := by have := h.k0; omega
    obtain ⟨hs1, hs2, hs3⟩ := h.sIn hk1
    by_cases hsc : s = c
    · subst hsc
      refine ⟨es, s, k + 1, h.admit2 hS hk1, fun W p hW hkb => ?_⟩
      refine (admit2_any wb kb s _ k p es (by omega) (by omega) hk1 (by omega) hne W hW.1 hW.2).mono ?_
      rintro e w1 ⟨rfl, x1, x2, x3⟩
      exact ⟨rfl, p, ⟨by rw [← Int.add_assoc]; exact x1, x2⟩, x3⟩
    · have ht : tot (es ++ [(s, k)]) + 1 = tot es + k + 1 := by
        have : ∀ l : List (Int × Int), tot (l ++ [(s, k)]) = tot l + k := fun l => by
          induction l with
          | nil => simp [tot]
          | cons e r ih => simp only [List.cons_append, tot, ih]; omega
        rw [this]
      refine ⟨es ++ [(s, k)], c, 1, h.admit3 hS hk1 hc (by omega), fun W p hW hkb => ?_⟩
      unfold WinAt
      rw [ht]
      rcases hW.2 with ⟨rfl, rfl⟩ | ⟨rb, bb, m0, head, rfl, hR⟩
      · refine (admit4_any wb kb c _ s k (by omega) (by omega) hk1 hsc hne W hW.1 hkb).mono ?_
        rintro e w1 ⟨rfl, p2, x1, x2, x3⟩
        exact ⟨rfl, p2, ⟨x1, x2⟩, x3⟩
      · refine (admit3_any wb kb rb bb m0 head c _ s k es (by omega) (by omega) hk1 hsc hne W hW.1 hR b3 hkb).mono ?_
        rintro e w1 ⟨rfl, x1, x2, x3⟩
        exact ⟨rfl, _, ⟨x1, x2⟩, x3⟩

/-- What a refused request is to wait. -/
def wantV (n L S : Nat) (K : List Int) (c now : Int) : Int := if n = 0 then 9223372036854775807 else waitV L S ((K.filter (inB S c)).headD 0) now

theorem wait_span (wb lb kb n L S : Nat) (hS : 1 ≤ S) (hSL : S ≤ L) (hL : L ≤ 9223372036854775807) (hn2 : n ≤ 9223372036854775807) (hlb : lb < wb) (hne : wb ≠ kb) (K : List Int) (c now : Int) (es : List (Int × Int)) (s k : Int) (hn : In now) (hc : In c) (hcm : c ≤ slotI L S 9223372036854775807) (hjc : slotI L S now ≤ c) (h : Span S K c es s k) (hN : (n : Int) ≤ tot es + k)
    (W : World) (p : Value) (hW : WinAt W wb kb c es s k p) (hl : Blk W lb (lim n L S)) :
    Calls Try.prog 22 #[.pointer (some ⟨wb, 0, none⟩), .pointer (some ⟨lb, 0, none⟩), .int .i64 now] W fun e w' => e = .returned (.int .i64 (wantV n L S K c now)) ∧ Keep (fun _ => True) W w' := by
  by_cases hz : n = 0
  · subst hz
    rw [show wantV 0 L S K c now = 9223372036854775807 from if_pos rfl]
    refine (waitZero_any wb lb L S now W hl).mono ?_
    rintro e w1 ⟨rfl, m, rfl⟩
    exact ⟨rfl, (Keep.refl _ _).drewN m⟩
  · have hk1 : 1 ≤ k := by
      have := h.k0
      by_cases hk : k = 0
      · have he := h.none hk
        subst hk he
        simp [tot] at hN
        omega
      · omega
    obtain ⟨hs1, hs2, hs3⟩ := h.sIn hk1
    have hd : (K.filter (inB S c)).headD 0 = oldest s es := by rw [List.headD_eq_head?_getD, h.head hk1]; rfl
    have ho : In (oldest s es) ∧ oldest s es ≤ c ∧ c < oldest s es + S := by
      have hm : oldest s es ∈ K.filter (inB S c) := List.mem_of_mem_head? (h.head hk1)
      have hin := (List.mem_filter.1 hm).2
      simp only [inB, decide_eq_true_eq] at hin
      rcases es with _ | ⟨e, r⟩
      · exact ⟨hs1, hs2, hs3⟩
      · have hg := h.good.2.2.1
        simp only [oldest] at hin ⊢
        exact ⟨h.good.1, by omega, by omega⟩
    rw [show wantV n L S K c now = waitV L S (oldest s es) now by unfold wantV; rw [if_neg hz, hd]]
    exact waitRing_any wb lb kb n L S c _ s k now p es hn ho.1 hS hSL hL (by omega) (by omega) W hW.1 hl hW.2 (by omega) hn2
end Go.Proofs.Qxb6608745a
