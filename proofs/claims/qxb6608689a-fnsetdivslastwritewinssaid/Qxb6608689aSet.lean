import Derived.Test.Qxb6608689aItoa
namespace Go.Proofs.Qxb6608689a
open Go.RowKit
set_option linter.unusedVariables false

set_option maxHeartbeats 1000000 in
theorem matches_any (s : ByteArray) (d : Nat) (w : World) (hs : s.size ≤ 2000000) (h : DivSays s d) :
    Calls Try.prog 21 #[.string s, .int .u32 d] w fun e w' => e = .returned (.bool true) ∧ Below w.heap.size w w' := by
  by_cases h1 : One s
  · have hd := h.1 h1
    subst hd
    have hp := numTo_pos h1 s.size h1.1 (Nat.le_refl _)
    have hb := (numTo_bound h1.2.2.2 h1.2.1 s.size (Nat.le_refl _)).1
    have hi := itoa_any s w h1
    have HI := hideP hi
    have hz : ((numTo s s.size : Int) == 0) = false := beq_eq_false_iff_ne.2 (by omega)
    clear hi h h1
    generalize numTo s s.size = d at *
    go_enter Try.func21, Try.ntmps21
    go_wp2_with fail
    refine HI.out.mono ?_
    rintro e w1 ⟨rfl, hb1⟩
    have HB1 := hideP hb1
    clear hb1
    go_wp2
    go_ret
    exact ⟨by simp, HB1.out⟩
  · have hd := h.2 h1
    subst hd
    have H27 := hideP (oneDivision_any s w hs false ⟨fun h => by simp at h, fun h => absurd h h1⟩)
    clear h h1
    go_enter Try.func21, Try.ntmps21
    go_wp2_with fail
    refine H27.out.mono ?_
    rintro e w1 ⟨rfl, hw⟩
    subst w1
    go_wp2
    go_ret
    exact ⟨rfl, Below.refl _ _⟩

/-- A node at block nb: its divisions and their number. -/
structure NodeAt (W : World) (nb : Nat) (s : ByteArray) (d : Nat) : Prop where
  lt : nb < W.heap.size
  divs : W.cell? ⟨nb, 8, none⟩ = some (.string s)
  div : W.cell? ⟨nb, 2, none⟩ = some (.int .u32 d)
  free8 : W.frozen? ⟨nb, 8, none⟩ = false
  free2 : W.frozen? ⟨nb, 2, none⟩ = false

theorem NodeAt.below {W W' : World} {nb : Nat} {s : ByteArray} {d B : Nat} (h : NodeAt W nb s d) (hb : Below B W W') (hB : nb < B) : NodeAt W' nb s d :=
  ⟨by have := h.lt; have := hb.size; omega, (hb.cell (p := ⟨nb, 8, none⟩) hB).trans h.divs, (hb.cell (p := ⟨nb, 2, none⟩) hB).trans h.div, (hb.frozen (p := ⟨nb, 8, none⟩) hB).trans h.free8, (hb.frozen (p := ⟨nb, 2, none⟩) hB).trans h.free2⟩

set_option maxHeartbeats 1000000 in
theorem newNode_any (w : World) :
    Calls Try.prog 17 #[] w fun e w' => e = .returned (.pointer (some ⟨w.heap.size, 0, none⟩)) ∧ Below w.heap.size w w' ∧ NodeAt w' w.heap.size ⟨#[]⟩ 0 := by
  go_enter Try.func17, Try.ntmps17
  go_wp2
  go_ret
  exact ⟨rfl, (Below.refl _ _).alloc (Nat.le_refl _) _, by simp, by go_simp, by go_simp, by go_simp, by go_simp⟩

/-- The node's two fields written. -/
def written (W : World) (nb : Nat) (s : ByteArray) (d : Nat) : World := (W.setCell ⟨nb, 8, none⟩ (.string s)).setCell ⟨nb, 2, none⟩ (.int .u32 d)

theorem written_node {W : World} {nb : Nat} {t : ByteArray} {d0 : Nat} (h : NodeAt W nb t d0) (s : ByteArray) (d : Nat) : NodeAt (written W nb s d) nb s d := by
  have n1 : (⟨nb, 2, none⟩ : Addr) ≠ ⟨nb, 8, none⟩ := fun e => by have := congrArg Addr.off e; simp at this
  have hd := h.div
  have hs := h.divs
  refine ⟨by have := h.lt; simpa [written, World.setCell] using this, ?_, ?_, ?_, ?_⟩
  · unfold written
    rw [World.cell?_setCell_other _ _ _ _ n1]
    exact World.cell?_setCell_same _ _ _ hs
  · unfold written
    exact World.cell?_setCell_same (u := .int .u32 d0) _ _ _ (by rw [World.cell?_setCell_other _ _ _ _ n1.symm]; exact hd)
  · unfold written; rw [World.frozen?_setCell, World.frozen?_setCell]; exact h.free8
  · unfold written; rw [World.frozen?_setCell, World.frozen?_setCell]; exact h.free2

theorem written_below {B : Nat} {a W : World} (h : Below B a W) {nb : Nat} (hb : B ≤ nb) (s : ByteArray) (d : Nat) : Below B a (written W nb s d) :=
  (h.setCell (p := ⟨nb, 8, none⟩) hb _).setCell (p := ⟨nb, 2, none⟩) hb _

/-- What the setting of a node's divisions leaves. -/
def SetTo (W : World) (nb : Nat) (s : ByteArray) (w' : World) : Prop := ∃ d, DivSays s d ∧ w' = written W nb s d

set_option maxHeartbeats 1000000 in
theorem setDivs_any (nb : Nat) (s t : ByteArray) (d0 : Nat) (w : World) (h : NodeAt w nb t d0) (hs : s.size ≤ 2000000) :
    Calls Try.prog 26 #[.pointer (some ⟨nb, 0, none⟩), .string s] w fun e w' => e = .returned (.tuple #[]) ∧ SetTo w nb s w' := by
  have c8 := h.divs
  have c2 := h.div
  have f8 := h.free8
  have f2 := h.free2
  have H30 := hideP (fun W => divNumber_any s W hs)
  clear h
  go_enter Try.func26, Try.ntmps26
  go_wp2_with fail
  refine (H30.out _).mono ?_
  rintro e w1 ⟨⟨d, b, rfl, hd⟩, hw⟩
  subst w1
  have HD := hideP hd
  clear hd
  go_wp2
  go_end0
  exact ⟨rfl, d, HD.out, rfl⟩

set_option maxHeartbeats 1000000 in
theorem zzSet_any (nb : Nat) (s t : ByteArray) (d0 : Nat) (w : World) (h : NodeAt w nb t d0) (hs : s.size ≤ 2000000) :
    Calls Try.prog 18 #[.pointer (some ⟨nb, 0, none⟩), .string s] w fun e w' => e = .returned (.tuple #[]) ∧ SetTo w nb s w' := by
  have H26 := hideP (setDivs_any nb s t d0 w h hs)
  clear h
  go_enter Try.func18, Try.ntmps18
  go_wp2_with fail
  refine H26.out.mono ?_
  rintro e w1 ⟨rfl, hst⟩
  have HST := hideP hst
  clear hst
  go_wp2
  go_end0
  exact ⟨rfl, HST.out⟩

set_option maxHeartbeats 400000 in
theorem nodeDiv_any (nb : Nat) (s : ByteArray) (d : Nat) (w : World) (h : NodeAt w nb s d) :
    Calls Try.prog 19 #[.pointer (some ⟨nb, 0, none⟩)] w fun e w' => e = .returned (.int .u32 d) ∧ w' = w := by
  have c2 := h.div
  clear h
  go_enter Try.func19, Try.ntmps19
  go_wp2
  go_ret
  exact ⟨rfl, rfl⟩

set_option maxHeartbeats 400000 in
theorem nodeDivs_any (nb : Nat) (s : ByteArray) (d : Nat) (w : World) (h : NodeAt w nb s d) :
    Calls Try.prog 20 #[.pointer (some ⟨nb, 0, none⟩)] w fun e w' => e = .returned (.string s) ∧ w' = w := by
  have c2 := h.divs
  clear h
  go_enter Try.func20, Try.ntmps20
  go_wp2
  go_ret
  exact ⟨rfl, rfl⟩

theorem DivSays.one {s : ByteArray} {d d' : Nat} (h : DivSays s d) (h' : DivSays s d') : d = d' := by
  by_cases ho : One s
  · rw [h.1 ho, h'.1 ho]
  · rw [h.2 ho, h'.2 ho]

set_option maxHeartbeats 1000000 in
theorem law5 (s t : ByteArray) (w : World) (hs : s.size ≤ maxLen) (ht : t.size ≤ maxLen) :
    Calls Try.prog 5 #[.string s, .string t] w fun e w' => e = .returned (.bool true) ∧ Below w.heap.size w w' := by
  have H16 := hideP (bytes16_any s t w hs ht)
  unfold maxLen at hs ht
  by_cases h1 : s.size ≤ 524288
  · by_cases h2 : t.size ≤ 524288
    · have H17 := hideP (fun W => newNode_any W)
      go_enter Try.func5, Try.ntmps5
      go_wp2_with fail
      refine H16.out.mono ?_
      rintro e w1 ⟨⟨b, rfl, hb⟩, hw⟩
      subst w1
      clear hb
      cases b
      · go_wp2
        go_ret
        exact ⟨rfl, Below.refl _ _⟩
      go_wp2_with fail
      refine (H17.out _).mono ?_
      rintro e w1 ⟨rfl, hb1, hn1⟩
      have hz1 := hb1.size
      have hl1 := hn1.lt
      have HB1 := hideP hb1
      have HN1 := hideP hn1
      have HS1 := hideP (zzSet_any w.heap.size s ⟨#[]⟩ 0 w1 hn1 (by omega))
      clear hb1 hn1
      go_wp2_with fail
      refine HS1.out.mono ?_
      rintro e w2 ⟨rfl, da, hda, hw2⟩
      have HN2 := hideP (written_node HN1.out s da)
      have HB2 := hideP (written_below HB1.out (Nat.le_refl _) s da)
      rw [← hw2] at HN2 HB2
      clear hw2 hda
      have HS2 := hideP (zzSet_any w.heap.size t s da w2 HN2.out (by omega))
      go_wp2_with fail
      refine HS2.out.mono ?_
      rintro e w3 ⟨rfl, d, hd, hw3⟩
      have HN3 := hideP (written_node HN2.out t d)
      have HB3 := hideP (written_below HB2.out (Nat.le_refl _) t d)
      rw [← hw3] at HN3 HB3
      have HD := hideP hd
      clear hw3 hd
      have hl3 := HN3.out.lt
      go_wp2_with fail
      refine (H17.out _).mono ?_
      rintro e w4 ⟨rfl, hb4, hn4⟩
      have hz4 := hb4.size
      have HN34 := hideP (HN3.out.below hb4 hl3)
      have HB4 : Hid (Below w.heap.size w w4) := HB3.out.trans (hb4.mono HB3.out.size)
      have HN4 := hideP hn4
      have HS4 := hideP (zzSet_any w3.heap.size t ⟨#[]⟩ 0 w4 hn4 (by omega))
      clear hb4 hn4
      go_wp2_with fail
      refine HS4.out.mono ?_
      rintro e w5 ⟨rfl, d', hd', hw5⟩
      have ed : d' = d := DivSays.one hd' HD.out
      subst ed
      have HN5 := hideP (written_node HN4.out t d')
      have HB5 := hideP (written_below HB4.out (show w.heap.size ≤ w3.heap.size from HB3.out.size) t d')
      have HB45 : Hid (Below w3.heap.size w4 w5) := by rw [hw5]; exact written_below (Below.refl _ _) (Nat.le_refl _) t d'
      rw [← hw5] at HN5 HB5
      clear hw5 hd'
      have HN35 := hideP (HN34.out.below HB45.out hl3)
      have H19 := hideP (nodeDiv_any w.heap.size t d' w5 HN35.out)
      have H20 := hideP (nodeDivs_any w.heap.size t d' w5 HN35.out)
      have H20' := hideP (nodeDivs_any w3.heap.size t d' w5 HN5.out)
      have H19' := hideP (nodeDiv_any w3.heap.size t d' w5 HN5.out)
      have H21 := hideP (matches_any t d' w5 (by omega) HD.out)
      have hdd : ((d' : Int) == (d' : Int)) = true := by simp
      have htt : (t.toList == t.toList) = true := by simp
      go_wp2_with fail
      refine H19.out.mono ?_
      rintro e w6 ⟨rfl, hw⟩
      subst w6
      go_wp2_with fail
      refine H20.out.mono ?_
      rintro e w6 ⟨rfl, hw⟩
      subst w6
      go_wp2_with fail
      refine H20'.out.mono ?_
      rintro e w6 ⟨rfl, hw⟩
      subst w6
      go_wp2_with fail
      refine H19'.out.mono ?_
      rintro e w6 ⟨rfl, hw⟩
      subst w6
      go_wp2_with fail
      refine H21.out.mono ?_
      rintro e w6 ⟨rfl, hb6⟩
      have HB6 : Hid (Below w.heap.size w w6) := HB5.out.trans (hb6.mono (by have := HB5.out.size; omega))
      clear hb6
      go_wp2
      go_ret
      exact ⟨rfl, HB6.out⟩
    · go_enter Try.func5, Try.ntmps5
      go_wp2_with fail
      refine H16.out.mono ?_
      rintro e w1 ⟨⟨b, rfl, hb⟩, hw⟩
      subst w1
      clear hb
      cases b
      · go_wp2
        go_ret
        exact ⟨rfl, Below.refl _ _⟩
      · go_wp2
        go_ret
        exact ⟨rfl, Below.refl _ _⟩
  · go_enter Try.func5, Try.ntmps5
    go_wp2_with fail
    refine H16.out.mono ?_
    rintro e w1 ⟨⟨b, rfl, hb⟩, hw⟩
    subst w1
    clear hb
    cases b
    · go_wp2
      go_ret
      exact ⟨rfl, Below.refl _ _⟩
    · go_wp2
      go_ret
      exact ⟨rfl, Below.refl _ _⟩
end Go.Proofs.Qxb6608689a
