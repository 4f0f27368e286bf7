import Derived.Test.Qxb6614303aBits
namespace Go.Proofs.Qxb6614303a

/-- How many instants lie before m. -/
def before (ts : List Int) (m : Int) : Nat := ts.countP (fun t => decide (t < m))

/-- The days of ms that have an instant before them, each with how many. -/
def listed (ts : List Int) (ms : List Int) : List (Int × Nat) := (ms.map fun m => (m, before ts m)).filter fun x => decide (0 < x.2)

def Sorted (ts : List Int) : Prop := ∀ i j, i ≤ j → j < ts.length → ts.getD i 0 ≤ ts.getD j 0

theorem Sorted.tail {a : Int} {r : List Int} (h : Sorted (a :: r)) : Sorted r := fun i j hij hj => by
  have := h (i + 1) (j + 1) (by omega) (by simpa using hj)
  simpa using this

theorem before_le (ts : List Int) (m : Int) : before ts m ≤ ts.length := List.countP_le_length

theorem before_cons (a : Int) (r : List Int) (m : Int) : before (a :: r) m = before r m + if a < m then 1 else 0 := by
  unfold before
  rw [List.countP_cons]
  simp

theorem before_zero (ts : List Int) (m : Int) (h : ∀ t, t < ts.length → m ≤ ts.getD t 0) : before ts m = 0 := by
  induction ts with
  | nil => rfl
  | cons a r ih =>
    rw [before_cons]
    have h0 := h 0 (by simp)
    simp at h0
    rw [if_neg (by omega), ih (fun t ht => by have := h (t + 1) (by simpa using ht); simpa using this)]

theorem before_spec : ∀ (ts : List Int) (m : Int), Sorted ts → (∀ t, t < before ts m → ts.getD t 0 < m) ∧ (∀ t, before ts m ≤ t → t < ts.length → m ≤ ts.getD t 0)
  | [], m, _ => by simp [before]
  | a :: r, m, h => by
    by_cases ha : a < m
    · obtain ⟨h1, h2⟩ := before_spec r m h.tail
      rw [before_cons, if_pos ha]
      refine ⟨fun t ht => ?_, fun t h3 h4 => ?_⟩
      · cases t with
        | zero => simpa using ha
        | succ t => simpa using h1 t (by omega)
      · cases t with
        | zero => omega
        | succ t => simpa using h2 t (by omega) (by simpa using h4)
    · have hz : before (a :: r) m = 0 := before_zero _ _ fun t ht => by
        have := h 0 t (by omega) ht
        simp only [List.getD_cons_zero] at this
        omega
      rw [hz]
      refine ⟨fun t ht => by omega, fun t _ h4 => ?_⟩
      have := h 0 t (by omega) h4
      simp only [List.getD_cons_zero] at this
      omega

theorem listed_snoc (ts ms : List Int) (k : Nat) (h : k < ms.length) : listed ts (ms.take (k + 1)) = listed ts (ms.take k) ++ if 0 < before ts (ms.getD k 0) then [(ms.getD k 0, before ts (ms.getD k 0))] else [] := by
  have e : ms.take (k + 1) = ms.take k ++ [ms.getD k 0] := by
    rw [List.take_succ_eq_append_getElem h]
    simp [List.getD, h]
  unfold listed
  rw [e]
  simp only [List.map_append, List.filter_append, List.map_cons, List.map_nil]
  generalize ms.getD k 0 = x
  by_cases hb : 0 < before ts x
  · rw [if_pos hb, List.filter_cons_of_pos (by simpa using hb), List.filter_nil]
  · rw [if_neg hb, List.filter_cons_of_neg (by simpa using hb), List.filter_nil]

theorem listed_le (ts ms : List Int) : (listed ts ms).length ≤ ms.length := by
  unfold listed
  exact Nat.le_trans (List.length_filter_le _ _) (by simp)
end Go.Proofs.Qxb6614303a
