import Derived.Test.Qxb6614303aReading
namespace Go.Proofs.Qxb6614303a
open Go.RowKit Go.Sort
set_option linter.unusedVariables false

/-- A slice that came in: at each index the cell holds f's value. -/
def ArgRow (W : World) (a : Option Addr) (n : Nat) (f : Nat → Value) : Prop :=
  ∀ i, i < n → ∃ b off, a = some ⟨b, off, none⟩ ∧ b < W.heap.size ∧ ∀ j, j < n → W.cell? ⟨b, off + j, none⟩ = some (f j)

theorem ArgRow.below {B : Nat} {W W' : World} {a : Option Addr} {n : Nat} {f : Nat → Value} (h : ArgRow W a n f) (hb : Below B W W') (hB : B = W.heap.size) : ArgRow W' a n f := fun i hi => by
  obtain ⟨b, off, h1, h2, h3⟩ := h i hi
  exact ⟨b, off, h1, by have := hb.size; omega, fun j hj => (hb.cell (p := ⟨b, off + j, none⟩) (by rw [hB]; exact h2)).trans (h3 j hj)⟩

/-- A row of n elements of four cells at the head of block b; those at the places D hold f's cells. -/
structure Row4 (W : World) (b n : Nat) (f : Nat → List Value) (D : Nat → Prop) : Prop where
  lt : b < W.heap.size
  room : ∀ o, o < n * 4 → ∃ u, W.cell? ⟨b, o, none⟩ = some u
  free : ∀ o, o < n * 4 → W.frozen? ⟨b, o, none⟩ = false
  done : ∀ i, i < n → D i → ∀ c, c < 4 → W.cell? ⟨b, i * 4 + c, none⟩ = some (f i)[c]!

theorem Row4.same {W W' : World} {b n : Nat} {f : Nat → List Value} {D : Nat → Prop} (h : Row4 W b n f D) (hb : W'.heap[b]? = W.heap[b]?) (hs : W.heap.size ≤ W'.heap.size) : Row4 W' b n f D where
  lt := by have := h.lt; omega
  room o ho := by obtain ⟨u, hu⟩ := h.room o ho; exact ⟨u, (World.cell?_of_block (w := W) hb).trans hu⟩
  free o ho := (World.frozen?_of_block (w := W) hb).trans (h.free o ho)
  done i hi hd c hc := (World.cell?_of_block (w := W) hb).trans (h.done i hi hd c hc)

theorem Row4.below {W W' : World} {b n B : Nat} {f : Nat → List Value} {D : Nat → Prop} (h : Row4 W b n f D) (hb : Below B W W') (hB : b < B) : Row4 W' b n f D :=
  h.same (hb.block b hB) hb.size

theorem Row4.mono {W : World} {b n : Nat} {f : Nat → List Value} {D D' : Nat → Prop} (h : Row4 W b n f D) (hd : ∀ i, i < n → D' i → D i) : Row4 W b n f D' :=
  ⟨h.lt, h.room, h.free, fun i hi h2 => h.done i hi (hd i hi h2)⟩

/-- The four stores of one element. -/
def set4 (W : World) (b o : Nat) (x0 x1 x2 x3 : Value) : World := (((W.setCell ⟨b, o, none⟩ x0).setCell ⟨b, o + 1, none⟩ x1).setCell ⟨b, o + 2, none⟩ x2).setCell ⟨b, o + 3, none⟩ x3

theorem set4_other {W : World} {b o : Nat} {x0 x1 x2 x3 : Value} {a : Addr} (h : ∀ c, c < 4 → a ≠ ⟨b, o + c, none⟩) : (set4 W b o x0 x1 x2 x3).cell? a = W.cell? a := by
  unfold set4
  rw [World.cell?_setCell_other _ _ _ _ (h 3 (by omega)).symm, World.cell?_setCell_other _ _ _ _ (h 2 (by omega)).symm, World.cell?_setCell_other _ _ _ _ (h 1 (by omega)).symm, World.cell?_setCell_other _ _ _ _ (by simpa using (h 0 (by omega)).symm)]

theorem Row4.store {W : World} {b n : Nat} {f : Nat → List Value} {D : Nat → Prop} (h : Row4 W b n f D) (j : Nat) (hj : j < n) (x0 x1 x2 x3 : Value) (hf : f j = [x0, x1, x2, x3]) :
    Row4 (set4 W b (j * 4) x0 x1 x2 x3) b n f (fun i => i = j ∨ D i) := by
  have size : (set4 W b (j * 4) x0 x1 x2 x3).heap.size = W.heap.size := by simp [set4, World.setCell]
  have here : ∀ c, c < 4 → (set4 W b (j * 4) x0 x1 x2 x3).cell? ⟨b, j * 4 + c, none⟩ = some [x0, x1, x2, x3][c]! := by
    intro c hc
    obtain ⟨u0, h0⟩ := h.room (j * 4) (by omega)
    obtain ⟨u1, h1⟩ := h.room (j * 4 + 1) (by omega)
    obtain ⟨u2, h2⟩ := h.room (j * 4 + 2) (by omega)
    obtain ⟨u3, h3⟩ := h.room (j * 4 + 3) (by omega)
    unfold set4
    have n : ∀ (x y : Nat), x ≠ y → (⟨b, x, none⟩ : Addr) ≠ ⟨b, y, none⟩ := fun x y hxy e => hxy (congrArg Addr.off e)
    have sm : ∀ (V : World) (a : Addr) (u v : Value), V.cell? a = some u → (V.setCell a v).cell? a = some v := fun V a u v hu => World.cell?_setCell_same _ _ _ hu
    have ot : ∀ (V : World) (a a' : Addr) (v : Value), a ≠ a' → (V.setCell a v).cell? a' = V.cell? a' := fun V a a' v hne => World.cell?_setCell_other _ _ _ _ hne
    match c, hc with
    | 0, _ => show World.cell? _ ⟨b, j * 4, none⟩ = some x0; rw [ot _ _ _ _ (n _ _ (by omega)), ot _ _ _ _ (n _ _ (by omega)), ot _ _ _ _ (n _ _ (by omega)), sm _ _ _ _ h0]
    | 1, _ => show _ = some x1; rw [ot _ _ _ _ (n _ _ (by omega)), ot _ _ _ _ (n _ _ (by omega))]; exact sm _ _ u1 _ (by rw [ot _ _ _ _ (n _ _ (by omega))]; exact h1)
    | 2, _ => show _ = some x2; rw [ot _ _ _ _ (n _ _ (by omega))]; exact sm _ _ u2 _ (by rw [ot _ _ _ _ (n _ _ (by omega)), ot _ _ _ _ (n _ _ (by omega))]; exact h2)
    | 3, _ => show _ = some x3; exact sm _ _ u3 _ (by rw [ot _ _ _ _ (n _ _ (by omega)), ot _ _ _ _ (n _ _ (by omega)), ot _ _ _ _ (n _ _ (by omega))]; exact h3)
  refine ⟨by rw [size]; exact h.lt, fun o ho => ?_, fun o ho => ?_, fun i hi hd c hc => ?_⟩
  · by_cases hm : j * 4 ≤ o ∧ o < j * 4 + 4
    · have := here (o - j * 4) (by omega)
      rw [show j * 4 + (o - j * 4) = o by omega] at this
      exact ⟨_, this⟩
    · obtain ⟨u, hu⟩ := h.room o ho
      refine ⟨u, ?_⟩
      rw [set4_other fun c hc e => by have := congrArg Addr.off e; simp at this; omega]
      exact hu
  · simp only [set4, World.frozen?_setCell]; exact h.free o ho
  · by_cases e : i = j
    · subst e; rw [hf]; exact here c hc
    · rw [set4_other fun c' hc' e' => by have := congrArg Addr.off e'; simp at this; omega]
      rcases hd with hd | hd
      · exact absurd hd e
      · exact h.done i hi hd c hc

theorem set4_below {B : Nat} {a W : World} (h : Below B a W) {b o : Nat} (hb : B ≤ b) (x0 x1 x2 x3 : Value) : Below B a (set4 W b o x0 x1 x2 x3) :=
  (((h.setCell (p := ⟨b, o, none⟩) hb x0).setCell (p := ⟨b, o + 1, none⟩) hb x1).setCell (p := ⟨b, o + 2, none⟩) hb x2).setCell (p := ⟨b, o + 3, none⟩) hb x3

theorem set4_block (W : World) (b o : Nat) (x0 x1 x2 x3 : Value) (k : Nat) (h : k ≠ b) : (set4 W b o x0 x1 x2 x3).heap[k]? = W.heap[k]? := by
  unfold set4
  rw [Below.heap_setCell _ _ _ _ (by exact h), Below.heap_setCell _ _ _ _ (by exact h), Below.heap_setCell _ _ _ _ (by exact h), Below.heap_setCell _ _ _ _ (by exact h)]

/-- A made row, out of what the make's law leaves. -/
theorem Row4.made {W : World} {base e g n cap : Nat} {xs : List Value} (h : W.ownsRow base e 4 (.slice (some ⟨g, 0, none⟩) n cap) n xs) (f : Nat → List Value) : Row4 W g n f (fun _ => False) := by
  rcases h.2 with ⟨h1, _⟩ | ⟨g', cap', cur, h1, hg, hh, hn, hm, hs, ht⟩
  · simp at h1
  · simp at h1
    obtain ⟨rfl, rfl⟩ := h1
    refine ⟨lt_of_block hh, fun o ho => ?_, fun o ho => by simp [World.frozen?, hh], fun _ _ h => h.elim⟩
    have : o < cur.size := by rw [hs]; omega
    exact ⟨cur[o], by simp [World.cell?, hh, this]⟩
end Go.Proofs.Qxb6614303a
