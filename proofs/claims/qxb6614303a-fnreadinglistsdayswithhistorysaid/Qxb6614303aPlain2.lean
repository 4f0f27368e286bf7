import Derived.Test.Qxb6614303aPlain
namespace Go.Proofs.Qxb6614303a

/-- How many of the first k days lie after the first instant. -/
def wanted (ts ms : List Int) (k : Nat) : Nat := (ms.take k).countP fun m => decide (ts.getD 0 0 < m)

theorem wanted_le (ts ms : List Int) (k : Nat) : wanted ts ms k ≤ k := by
  unfold wanted
  exact Nat.le_trans List.countP_le_length (List.length_take_le _ _)

theorem wanted_succ (ts ms : List Int) (k : Nat) (h : k < ms.length) : wanted ts ms (k + 1) = wanted ts ms k + if ts.getD 0 0 < ms.getD k 0 then 1 else 0 := by
  have e : ms.take (k + 1) = ms.take k ++ [ms.getD k 0] := by
    rw [List.take_succ_eq_append_getElem h]
    simp [List.getD, h]
  unfold wanted
  rw [e, List.countP_append]
  simp [List.countP_cons]

theorem before_pos (ts : List Int) (m : Int) (h : Sorted ts) (hl : 0 < ts.length) : (0 < before ts m) ↔ ts.getD 0 0 < m := by
  obtain ⟨h1, h2⟩ := before_spec ts m h
  constructor
  · intro hb; exact h1 0 hb
  · intro hm
    by_cases hb : 0 < before ts m
    · exact hb
    · have := h2 0 (by omega) hl; omega

theorem listed_length (ts ms : List Int) (h : Sorted ts) (hl : 0 < ts.length) : (listed ts ms).length = wanted ts ms ms.length := by
  unfold listed wanted
  rw [List.take_length, ← List.countP_eq_length_filter, List.countP_map]
  apply List.countP_congr
  intro m _
  simp only [Function.comp, decide_eq_true_eq]
  exact before_pos ts m h hl

theorem listed_nil (ms : List Int) : listed [] ms = [] := by
  unfold listed
  rw [List.filter_eq_nil_iff]
  intro x hx
  rw [List.mem_map] at hx
  obtain ⟨m, _, rfl⟩ := hx
  simp [before]

theorem listed_append (ts a b : List Int) : listed ts (a ++ b) = listed ts a ++ listed ts b := by
  unfold listed; rw [List.map_append, List.filter_append]

theorem listed_perm (ts : List Int) {a b : List Int} (h : a.Perm b) : (listed ts a).Perm (listed ts b) := (h.map _).filter _

theorem listed_mem (ts ms : List Int) (x : Int × Nat) (h : x ∈ listed ts ms) : 1 ≤ x.2 ∧ x.2 ≤ ts.length := by
  unfold listed at h
  rw [List.mem_filter, List.mem_map] at h
  obtain ⟨⟨m, _, rfl⟩, h2⟩ := h
  simp at h2
  exact ⟨h2, before_le ts m⟩

def dbl (l : List Nat) : List Nat := l.flatMap fun x => [x, x]

theorem dbl_perm : ∀ l : List Nat, (dbl l).Perm (l ++ l)
  | [] => List.Perm.nil
  | a :: r => by
    show (a :: a :: dbl r).Perm (a :: r ++ a :: r)
    refine List.Perm.cons a ?_
    refine List.Perm.trans (List.Perm.cons a (dbl_perm r)) ?_
    exact (List.perm_middle).symm

theorem dbl_mem {l : List Nat} {x : Nat} (h : x ∈ dbl l) : x ∈ l := by
  have := (dbl_perm l).subset h
  simpa using this

theorem dbl_sorted : ∀ l : List Nat, l.Pairwise (· ≤ ·) → (dbl l).Pairwise (· ≤ ·)
  | [], _ => List.Pairwise.nil
  | a :: r, h => by
    rw [List.pairwise_cons] at h
    show (a :: a :: dbl r).Pairwise (· ≤ ·)
    rw [List.pairwise_cons, List.pairwise_cons]
    refine ⟨fun x hx => ?_, fun x hx => h.1 x (dbl_mem hx), dbl_sorted r h.2⟩
    rcases List.mem_cons.1 hx with e | e
    · omega
    · exact h.1 x (dbl_mem e)

theorem dbl_get : ∀ (l : List Nat) (k : Nat), (dbl l).getD (2 * k) 0 = l.getD k 0 ∧ (dbl l).getD (2 * k + 1) 0 = l.getD k 0
  | [], k => by simp [dbl]
  | a :: r, 0 => ⟨rfl, rfl⟩
  | a :: r, k + 1 => by
    obtain ⟨h1, h2⟩ := dbl_get r k
    constructor
    · show (a :: a :: dbl r).getD (2 * k + 1 + 1) 0 = _
      simpa using h1
    · show (a :: a :: dbl r).getD (2 * k + 1 + 1 + 1) 0 = _
      simpa using h2

theorem getD_map2 (L : List (Int × Nat)) (k : Nat) : (L.map (·.2)).getD k 0 = (L.getD k (0, 0)).2 := by
  simp [List.getD]
  cases L[k]? <;> rfl

/-- THE TWO READINGS. -/
theorem twice_plain (ts ms : List Int) (L1 L2 : List (Int × Nat)) (p1 : L1.Perm (listed ts ms)) (s1 : L1.Pairwise fun a b => a.2 ≤ b.2) (p2 : L2.Perm (listed ts (ms ++ ms.reverse))) (s2 : L2.Pairwise fun a b => a.2 ≤ b.2) :
    L2.length = 2 * L1.length ∧ ∀ k, k < L1.length → 1 ≤ (L1.getD k (0, 0)).2 ∧ (L1.getD k (0, 0)).2 ≤ ts.length ∧ (L2.getD (2 * k) (0, 0)).2 = (L1.getD k (0, 0)).2 ∧ (L2.getD (2 * k + 1) (0, 0)).2 = (L1.getD k (0, 0)).2 := by
  have hp : L2.Perm (L1 ++ L1) := by
    refine p2.trans ?_
    rw [listed_append]
    exact List.Perm.append p1.symm ((listed_perm ts (List.reverse_perm ms)).trans p1.symm)
  refine ⟨by rw [hp.length_eq, List.length_append]; omega, fun k hk => ?_⟩
  have hm : L1.getD k (0, 0) ∈ listed ts ms := by
    refine p1.subset ?_
    simp [List.getD, hk]
  obtain ⟨m1, m2⟩ := listed_mem ts ms _ hm
  have e : L2.map (·.2) = dbl (L1.map (·.2)) := by
    refine List.Perm.eq_of_pairwise (le := fun a b : Nat => a ≤ b) (fun a b _ _ h1 h2 => by omega) ?_ ?_ ?_
    · exact List.pairwise_map.2 s2
    · exact dbl_sorted _ (List.pairwise_map.2 s1)
    · refine (hp.map _).trans ?_
      rw [List.map_append]
      exact (dbl_perm _).symm
  obtain ⟨g1, g2⟩ := dbl_get (L1.map (·.2)) k
  rw [← e, getD_map2, getD_map2] at g1 g2
  exact ⟨m1, m2, g1, g2⟩

/-- The calendar followed by its own reverse. -/
theorem doubled_get (ms : List Int) (i : Nat) (hi : i < 2 * ms.length) : (ms ++ ms.reverse).getD i 0 = ms.getD (if i < ms.length then i else 2 * ms.length - 1 - i) 0 := by
  by_cases h : i < ms.length
  · rw [if_pos h]; simp [List.getD, List.getElem?_append_left h]
  · rw [if_neg h]
    simp only [List.getD]
    rw [List.getElem?_append_right (by omega), List.getElem?_reverse (by omega)]
    rw [show ms.length - 1 - (i - ms.length) = 2 * ms.length - 1 - i by omega]
end Go.Proofs.Qxb6614303a
