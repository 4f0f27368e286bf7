import Derived.Test.Qxb6614303aPlain2
namespace Go.Proofs.Qxb6614303a

/-- A day with how many instants lie before it. -/
def key (ts ms : List Int) (d : Nat) : Int × Nat := (ms.getD d 0, before ts (ms.getD d 0))

theorem countP_range_set (p p' : Nat → Bool) (d0 : Nat) (h0 : p d0 = false) (h1 : p' d0 = true) (h2 : ∀ d, d ≠ d0 → p' d = p d) :
    ∀ n, (List.range n).countP p' = (List.range n).countP p + if d0 < n then 1 else 0
  | 0 => by simp
  | n + 1 => by
    rw [List.range_succ, List.countP_append, List.countP_append, countP_range_set p p' d0 h0 h1 h2 n]
    by_cases e : n = d0
    · subst e; simp [h0, h1]
    · have := h2 n e
      simp only [List.countP_cons, List.countP_nil, this]
      split <;> split <;> split <;> omega

theorem ms_range (ms : List Int) : (List.range ms.length).map (fun d => ms.getD d 0) = ms := by
  apply List.ext_getElem
  · simp
  · intro i h1 h2
    simp [List.getD, h2]

theorem count_listed (ts ms : List Int) (x : Int × Nat) (hx : 0 < x.2) : (listed ts ms).count x = (List.range ms.length).countP fun d => decide (key ts ms d = x) := by
  have e : listed ts ms = ((List.range ms.length).map (key ts ms)).filter fun x => decide (0 < x.2) := by
    unfold listed
    congr 1
    have h := List.map_map (f := fun d => ms.getD d 0) (g := fun m => (m, before ts m)) (l := List.range ms.length)
    rw [ms_range] at h
    exact h
  rw [e, List.count_filter (by simpa using hx), List.count, List.countP_map]
  apply List.countP_congr
  intro d _
  simp [Function.comp]

/-- What has been matched so far. -/
def Inv (ts ms : List Int) (L : List (Int × Nat)) (u : Nat → Bool) (k : Nat) : Prop :=
  ∀ x, ((List.range ms.length).countP fun d => u d && decide (key ts ms d = x)) = (L.take k).count x

theorem inv_start (ts ms : List Int) (L : List (Int × Nat)) : Inv ts ms L (fun _ => false) 0 := fun x => by simp

theorem take_snocL (L : List (Int × Nat)) (k : Nat) (h : k < L.length) : L.take (k + 1) = L.take k ++ [L.getD k (0, 0)] := by
  rw [List.take_succ_eq_append_getElem h]
  simp [List.getD, h]

theorem inv_step (ts ms : List Int) (L : List (Int × Nat)) (u : Nat → Bool) (k d0 : Nat) (h : Inv ts ms L u k) (hk : k < L.length) (hd : d0 < ms.length) (hu : u d0 = false) (hkey : key ts ms d0 = L.getD k (0, 0)) :
    Inv ts ms L (fun d => decide (d = d0) || u d) (k + 1) := by
  intro x
  rw [take_snocL L k hk, List.count_append, ← h x]
  generalize L.getD k (0, 0) = y at hkey ⊢
  by_cases e : y = x
  · rw [countP_range_set (fun d => u d && decide (key ts ms d = x)) _ d0 (by simp [hu]) (by simp [hkey, e]) (fun d hne => by simp [hne])]
    rw [if_pos hd, e]
    simp
  · have e2 : ((List.range ms.length).countP fun d => (decide (d = d0) || u d) && decide (key ts ms d = x)) = (List.range ms.length).countP fun d => u d && decide (key ts ms d = x) := by
      apply List.countP_congr
      intro d _
      by_cases hd0 : d = d0
      · subst hd0; simp [hkey, e]
      · simp [hd0]
    rw [e2]
    simp [e]

theorem inv_find (ts ms : List Int) (L : List (Int × Nat)) (u : Nat → Bool) (k : Nat) (h : Inv ts ms L u k) (hk : k < L.length) (hp : L.Perm (listed ts ms)) :
    ¬ ∀ d, d < ms.length → ¬ (u d = false ∧ key ts ms d = L.getD k (0, 0)) := by
  intro hno
  have hm : L.getD k (0, 0) ∈ L := by simp [List.getD, hk]
  have hx := (listed_mem ts ms _ (hp.subset hm)).1
  generalize hxe : L.getD k (0, 0) = x at *
  have e2 : ((List.range ms.length).countP fun d => u d && decide (key ts ms d = x)) = (List.range ms.length).countP fun d => decide (key ts ms d = x) := by
    apply List.countP_congr
    intro d hd
    have := hno d (List.mem_range.1 hd)
    cases hu : u d
    · simp [hu] at this; simp [this]
    · simp
  have h1 := h x
  rw [e2, ← count_listed ts ms x (by omega), ← hp.count_eq x] at h1
  have h2 : L.count x = (L.take (k + 1)).count x + (L.drop (k + 1)).count x := by rw [← List.count_append, List.take_append_drop]
  rw [take_snocL L k hk, List.count_append, hxe] at h2
  simp at h2
  omega

theorem sorted_get (L : List (Int × Nat)) (h : L.Pairwise fun a b => a.2 ≤ b.2) (k : Nat) (hk : k + 1 < L.length) : (L.getD k (0, 0)).2 ≤ (L.getD (k + 1) (0, 0)).2 := by
  rw [List.pairwise_iff_getElem] at h
  have := h k (k + 1) (by omega) hk (by omega)
  have h1 : k < L.length := by omega
  simpa [List.getD, h1, hk] using this
end Go.Proofs.Qxb6614303a
