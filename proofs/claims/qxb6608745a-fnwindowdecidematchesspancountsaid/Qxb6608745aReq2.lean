import Derived.Test.Qxb6608745aReq
namespace Go.Proofs.Qxb6608745a
open Go.RowKit
set_option linter.unusedVariables false

theorem clock_in {L S : Nat} (hS : 1 ≤ S) (hSL : S ≤ L) {c now : Int} (hc : In c) (hn : In now) : In (clock L S c now) := by
  unfold clock; split
  · exact slotI_in hS hSL hn
  · exact hc

theorem clock_max {L S : Nat} (hS : 1 ≤ S) (hSL : S ≤ L) {c now : Int} (hc : c ≤ slotI L S 9223372036854775807) (hn : In now) : clock L S c now ≤ slotI L S 9223372036854775807 := by
  unfold clock; split
  · exact slotI_mono (by omega) hS hn.2
  · exact hc

theorem clock_ge (L S : Nat) (c now : Int) : c ≤ clock L S c now ∧ slotI L S now ≤ clock L S c now := by
  unfold clock; split <;> omega

theorem req_admit (wb lb kb n L S : Nat) (hS : 1 ≤ S) (hSL : S ≤ L) (hL : L ≤ 9223372036854775807) (hn2 : n ≤ 9223372036854775807) (hlb : lb < wb) (hne : wb ≠ kb) (K : List Int) (c now : Int) (es : List (Int × Int)) (s k : Int) (p : Value) (w : World) (hn : In now) (hc : In c) (hK : K.length ≤ 4096) (h : Span S K c es s k) (hw : WinAt w wb kb c es s k p) (hl : Blk w lb (lim n L S)) (hkb : kb < w.heap.size)
    (hN : (K.filter (inB S (clock L S c now))).length < n) :
    ∃ es2 s2 k2, Span S (K ++ [clock L S c now]) (clock L S c now) es2 s2 k2 ∧ Calls Try.prog 12 #[.pointer (some ⟨wb, 0, none⟩), .pointer (some ⟨lb, 0, none⟩), .int .i64 now] w fun e w' =>
      e = .returned (.tuple #[.bool true, .int .i64 0]) ∧ ∃ p2, WinAt w' wb kb (clock L S c now) es2 s2 k2 p2 ∧ Keep (KK wb kb) w w' := by
  by_cases hj : c < slotI L S now
  · have hcl : clock L S c now = slotI L S now := if_pos hj
    rw [hcl] at hN ⊢
    have hji := slotI_in hS hSL hn
    obtain ⟨es1, s1, k1, h1, hlv⟩ := leave_span wb lb kb n L S hS hSL hL hn2 hlb hne K c now es s k p w hn hc hK h hw hl hj
    obtain ⟨es2, s2, k2, h2, hadm⟩ := admit_span wb lb kb n L S hS hSL hL hn2 hlb hne K _ es1 s1 k1 hji hK h1
    refine ⟨es2, s2, k2, h2, ?_⟩
    have hlen := h1.len
    apply zzDecide_any (R := fun w' => ∃ p2, WinAt w' wb kb (slotI L S now) es2 s2 k2 p2 ∧ Keep (KK wb kb) w w')
    refine decide_move_admit wb lb n L S _ _ _ _ now _ w hn hS hSL hL hw.1 hl hj (tot es1 + k1) (by omega) (fun w1 => WinAt w1 wb kb (slotI L S now) es1 s1 k1 p ∧ Keep (KK wb kb) w w1) _ hlv (fun w1 hx => ⟨hx.1.1.cell 1 _ rfl, (hx.2.blk hl (.inl hlb)).cell 0 _ rfl⟩) (fun w1 m hx => ?_)
    refine (hadm (w1.drewN m) p (hx.1.keep ((Keep.refl _ _).drewN m)) (by have := hx.2.size; show kb < w1.heap.size; omega)).mono ?_
    rintro e w2 ⟨rfl, p2, x1, x2⟩
    exact ⟨rfl, p2, x1, (hx.2.drewN m).trans x2⟩
  · have hcl : clock L S c now = c := if_neg hj
    rw [hcl] at hN ⊢
    obtain ⟨es2, s2, k2, h2, hadm⟩ := admit_span wb lb kb n L S hS hSL hL hn2 hlb hne K _ es s k hc hK h
    refine ⟨es2, s2, k2, h2, ?_⟩
    have hlen := h.len
    apply zzDecide_any (R := fun w' => ∃ p2, WinAt w' wb kb c es2 s2 k2 p2 ∧ Keep (KK wb kb) w w')
    refine decide_stay_admit wb lb n L S _ _ _ _ now _ w hn hS hSL hL hw.1 hl (by omega) (by omega) _ fun m => ?_
    refine (hadm (w.drewN m) p (hw.keep ((Keep.refl _ _).drewN m)) hkb).mono ?_
    rintro e w2 ⟨rfl, p2, x1, x2⟩
    exact ⟨rfl, p2, x1, ((Keep.refl _ w).drewN m).trans x2⟩

theorem req_refuse (wb lb kb n L S : Nat) (hS : 1 ≤ S) (hSL : S ≤ L) (hL : L ≤ 9223372036854775807) (hn2 : n ≤ 9223372036854775807) (hlb : lb < wb) (hne : wb ≠ kb) (K : List Int) (c now : Int) (es : List (Int × Int)) (s k : Int) (p : Value) (w : World) (hn : In now) (hc : In c) (hcm : c ≤ slotI L S 9223372036854775807) (hK : K.length ≤ 4096) (h : Span S K c es s k) (hw : WinAt w wb kb c es s k p) (hl : Blk w lb (lim n L S)) (hkb : kb < w.heap.size)
    (hN : n ≤ (K.filter (inB S (clock L S c now))).length) :
    ∃ es2 s2 k2, Span S K (clock L S c now) es2 s2 k2 ∧ Calls Try.prog 12 #[.pointer (some ⟨wb, 0, none⟩), .pointer (some ⟨lb, 0, none⟩), .int .i64 now] w fun e w' =>
      e = .returned (.tuple #[.bool false, .int .i64 (wantV n L S K (clock L S c now) now)]) ∧ ∃ p2, WinAt w' wb kb (clock L S c now) es2 s2 k2 p2 ∧ Keep (KK wb kb) w w' := by
  by_cases hj : c < slotI L S now
  · have hcl : clock L S c now = slotI L S now := if_pos hj
    rw [hcl] at hN ⊢
    have hji := slotI_in hS hSL hn
    obtain ⟨es1, s1, k1, h1, hlv⟩ := leave_span wb lb kb n L S hS hSL hL hn2 hlb hne K c now es s k p w hn hc hK h hw hl hj
    refine ⟨es1, s1, k1, h1, ?_⟩
    have hlen := h1.len
    apply zzDecide_any (R := fun w' => ∃ p2, WinAt w' wb kb (slotI L S now) es1 s1 k1 p2 ∧ Keep (KK wb kb) w w')
    refine decide_move_refuse wb lb n L S _ _ _ _ now _ w hn hS hSL hL hw.1 hl hj (tot es1 + k1) (by omega) (fun w1 => WinAt w1 wb kb (slotI L S now) es1 s1 k1 p ∧ Keep (KK wb kb) w w1) _ _ hlv (fun w1 hx => ⟨hx.1.1.cell 1 _ rfl, (hx.2.blk hl (.inl hlb)).cell 0 _ rfl⟩) (fun w1 m hx => ?_)
    refine (wait_span wb lb kb n L S hS hSL hL hn2 hlb hne K _ now es1 s1 k1 hn hji (slotI_mono (by omega) hS hn.2) (Int.le_refl _) h1 (by omega) (w1.drewN m) p (hx.1.keep ((Keep.refl _ _).drewN m)) ((hx.2.blk hl (.inl hlb)).drew m)).mono ?_
    rintro e w2 ⟨rfl, x2⟩
    exact ⟨rfl, p, (hx.1.keep ((Keep.refl _ _).drewN m)).keep x2, (hx.2.drewN m).trans x2.all⟩
  · have hcl : clock L S c now = c := if_neg hj
    rw [hcl] at hN ⊢
    refine ⟨es, s, k, h, ?_⟩
    have hlen := h.len
    apply zzDecide_any (R := fun w' => ∃ p2, WinAt w' wb kb c es s k p2 ∧ Keep (KK wb kb) w w')
    refine decide_stay_refuse wb lb n L S _ _ _ _ now _ w hn hS hSL hL hw.1 hl (by omega) (by omega) _ _ fun m => ?_
    refine (wait_span wb lb kb n L S hS hSL hL hn2 hlb hne K _ now es s k hn hc hcm (by omega) h (by omega) (w.drewN m) p (hw.keep ((Keep.refl _ _).drewN m)) (hl.drew m)).mono ?_
    rintro e w2 ⟨rfl, x2⟩
    exact ⟨rfl, p, (hw.keep ((Keep.refl _ _).drewN m)).keep x2, ((Keep.refl _ w).drewN m).trans x2.all⟩

theorem span_new (S : Nat) : Span S [] (-9223372036854775808) [] 0 0 := ⟨rfl, trivial, trivial, Int.le_refl _, fun _ => rfl, fun h => by omega⟩
end Go.Proofs.Qxb6608745a
