import Derived.Test.Qxb6608745aAdm
namespace Go.Proofs.Qxb6608745a
open Go.RowKit
set_option linter.unusedVariables false

/-- The requests that slots with counts stand for. -/
def expand : List (Int × Int) → List Int
  | [] => []
  | e :: r => List.replicate e.2.toNat e.1 ++ expand r

theorem expand_append (a b : List (Int × Int)) : expand (a ++ b) = expand a ++ expand b := by
  induction a with
  | nil => rfl
  | cons e r ih => simp only [List.cons_append, expand, ih, List.append_assoc]

/-- Slots in order. -/
def Asc : List (Int × Int) → Prop
  | [] => True
  | e :: r => (∀ x ∈ r, e.1 < x.1) ∧ Asc r

/-- Is x in the span of S slots that ends at c? -/
def inB (S : Nat) (c : Int) (x : Int) : Bool := decide (c - S < x)

theorem filter_all {p : Int → Bool} {l : List Int} (h : ∀ x ∈ l, p x = true) : l.filter p = l := List.filter_eq_self.2 h
theorem filter_none {p : Int → Bool} {l : List Int} (h : ∀ x ∈ l, p x = false) : l.filter p = [] := List.filter_eq_nil_iff.2 (fun x hx => by rw [h x hx]; simp)

theorem mem_expand {x : Int} : ∀ {es : List (Int × Int)}, x ∈ expand es → ∃ e ∈ es, x = e.1
  | [], h => by simp [expand] at h
  | e :: r, h => by
    simp only [expand, List.mem_append] at h
    rcases h with h | h
    · exact ⟨e, by simp, List.eq_of_mem_replicate h⟩
    · obtain ⟨e', h1, h2⟩ := mem_expand h
      exact ⟨e', by simp [h1], h2⟩

theorem filter_expand (S : Nat) (c : Int) : ∀ (es : List (Int × Int)), Asc es → (expand es).filter (inB S c) = expand (es.dropWhile (goneB S c))
  | [], _ => rfl
  | e :: r, h => by
    simp only [expand, List.filter_append]
    by_cases hg : goneB S c e = true
    · rw [List.dropWhile_cons_of_pos hg, filter_expand S c r h.2]
      have : (List.replicate e.2.toNat e.1).filter (inB S c) = [] := filter_none fun x hx => by
        rw [List.eq_of_mem_replicate hx]
        simp only [goneB, decide_eq_true_eq] at hg
        exact decide_eq_false (by omega)
      rw [this, List.nil_append]
    · rw [List.dropWhile_cons_of_neg hg]
      have hg' : ¬ (S : Int) ≤ c - e.1 := by simpa [goneB] using hg
      simp only [expand]
      rw [filter_all (fun x hx => by rw [List.eq_of_mem_replicate hx]; exact decide_eq_true (by omega))]
      congr 1
      exact filter_all fun x hx => by
        obtain ⟨e', h1, h2⟩ := mem_expand hx
        have := h.1 e' h1
        exact decide_eq_true (by omega)

theorem expand_len (s : Int) : ∀ {es : List (Int × Int)}, Good s es → ((expand es).length : Int) = tot es
  | [], _ => rfl
  | e :: r, h => by
    have := expand_len s h.2.2.2
    have := h.2.1
    simp only [expand, List.length_append, List.length_replicate, tot, Int.natCast_add]
    omega

theorem Good.drop {s : Int} (p : Int × Int → Bool) : ∀ {es : List (Int × Int)}, Good s es → Good s (es.dropWhile p)
  | [], _ => trivial
  | e :: r, h => by
    by_cases hp : p e = true
    · rw [List.dropWhile_cons_of_pos hp]; exact Good.drop p h.2.2.2
    · rw [List.dropWhile_cons_of_neg hp]; exact h

theorem Asc.drop (p : Int × Int → Bool) : ∀ {es : List (Int × Int)}, Asc es → Asc (es.dropWhile p)
  | [], _ => trivial
  | e :: r, h => by
    by_cases hp : p e = true
    · rw [List.dropWhile_cons_of_pos hp]; exact Asc.drop p h.2
    · rw [List.dropWhile_cons_of_neg hp]; exact h

theorem Good.mem {s : Int} : ∀ {es : List (Int × Int)}, Good s es → ∀ e ∈ es, In e.1 ∧ 1 ≤ e.2 ∧ e.1 < s
  | e :: r, h, x, hx => by
    rcases List.mem_cons.1 hx with rfl | hx
    · exact ⟨h.1, h.2.1, h.2.2.1⟩
    · exact Good.mem h.2.2.2 x hx

theorem Good.snoc {s s' k : Int} (hs : In s) (hk : 1 ≤ k) (hlt : s < s') : ∀ {es : List (Int × Int)}, Good s es → Good s' (es ++ [(s, k)])
  | [], _ => ⟨hs, hk, hlt, trivial⟩
  | e :: r, h => ⟨h.1, h.2.1, by have := h.2.2.1; omega, Good.snoc hs hk hlt h.2.2.2⟩

theorem Asc.snoc {s k : Int} : ∀ {es : List (Int × Int)}, Good s es → Asc es → Asc (es ++ [(s, k)])
  | [], _, _ => ⟨by simp, trivial⟩
  | e :: r, g, h => ⟨fun x hx => by
      rcases List.mem_append.1 hx with hx | hx
      · exact h.1 x hx
      · simp at hx; subst hx; exact g.2.2.1, Asc.snoc g.2.2.2 h.2⟩

/-- A window's slots against the requests admitted so far. -/
structure Span (S : Nat) (K : List Int) (c : Int) (es : List (Int × Int)) (s k : Int) : Prop where
  eq : K.filter (inB S c) = expand es ++ List.replicate k.toNat s
  good : Good s es
  asc : Asc es
  k0 : 0 ≤ k
  none : k = 0 → es = []
  sIn : 1 ≤ k → In s ∧ s ≤ c ∧ c < s + S

theorem filter_filter_le {S : Nat} {c c' : Int} (h : c ≤ c') (K : List Int) : K.filter (inB S c') = (K.filter (inB S c)).filter (inB S c') := by
  rw [List.filter_filter]
  apply List.filter_congr
  intro x _
  by_cases hx : c' - S < x
  · have e1 : inB S c' x = true := decide_eq_true hx
    have e2 : inB S c x = true := decide_eq_true (by omega)
    rw [e1, e2]; rfl
  · have e1 : inB S c' x = false := decide_eq_false hx
    rw [e1]; rfl

theorem Span.moveNone {S : Nat} {K : List Int} {c c' : Int} {es : List (Int × Int)} {s k : Int} (h : Span S K c es s k) (hc : c ≤ c') (hk : k = 0) : Span S K c' es s k := by
  have he := h.none hk
  subst hk he
  refine ⟨?_, trivial, trivial, Int.le_refl _, fun _ => rfl, fun h => by omega⟩
  rw [filter_filter_le hc, h.eq]; rfl

theorem Span.moveReset {S : Nat} {K : List Int} {c c' : Int} {es : List (Int × Int)} {s k : Int} (h : Span S K c es s k) (hc : c ≤ c') (hg : s + S ≤ c') : Span S K c' [] 0 0 := by
  refine ⟨?_, trivial, trivial, Int.le_refl _, fun _ => rfl, fun h => by omega⟩
  rw [filter_filter_le hc, h.eq]
  refine filter_none fun x hx => decide_eq_false ?_
  rcases List.mem_append.1 hx with hx | hx
  · obtain ⟨e, h1, h2⟩ := mem_expand hx
    have := (h.good.mem e h1).2.2
    omega
  · rw [List.eq_of_mem_replicate hx]; omega

theorem Span.moveDrop {S : Nat} {K : List Int} {c c' : Int} {es : List (Int × Int)} {s k : Int} (h : Span S K c es s k) (hc : c ≤ c') (hk : 1 ≤ k) (hg : c' < s + S) (hs : s ≤ c') : Span S K c' (es.dropWhile (goneB S c')) s k := by
  refine ⟨?_, h.good.drop _, h.asc.drop _, h.k0, fun e => by omega, fun _ => ⟨(h.sIn hk).1, hs, hg⟩⟩
  rw [filter_filter_le hc, h.eq, List.filter_append, filter_expand S c' es h.asc]
  congr 1
  exact filter_all fun x hx => by rw [List.eq_of_mem_replicate hx]; exact decide_eq_true (by omega)

theorem Span.len {S : Nat} {K : List Int} {c : Int} {es : List (Int × Int)} {s k : Int} (h : Span S K c es s k) : ((K.filter (inB S c)).length : Int) = tot es + k := by
  have := expand_len s h.good
  have := h.k0
  rw [h.eq, List.length_append, List.length_replicate, Int.natCast_add]
  omega

theorem Span.head {S : Nat} {K : List Int} {c : Int} {es : List (Int × Int)} {s k : Int} (h : Span S K c es s k) (hk : 1 ≤ k) : (K.filter (inB S c)).head? = some (oldest s es) := by
  rw [h.eq]
  rcases es with _ | ⟨e, r⟩
  · obtain ⟨n, hn⟩ : ∃ n, k.toNat = n + 1 := ⟨k.toNat - 1, by omega⟩
    rw [hn]; rfl
  · have := h.good.2.1
    obtain ⟨n, hn⟩ : ∃ n, e.2.toNat = n + 1 := ⟨e.2.toNat - 1, by omega⟩
    simp only [expand]
    rw [hn]; rfl

theorem inB_self {S : Nat} (hS : 1 ≤ S) (c : Int) : inB S c c = true := decide_eq_true (by omega)

theorem Span.admit1 {S : Nat} {K : List Int} {c : Int} {es : List (Int × Int)} {s : Int} (h : Span S K c es s 0) (hS : 1 ≤ S) (hc : In c) : Span S (K ++ [c]) c [] c 1 := by
  have he := h.none rfl
  subst he
  refine ⟨?_, trivial, trivial, by omega, fun h => by omega, fun _ => ⟨hc, Int.le_refl _, by omega⟩⟩
  rw [List.filter_append, h.eq]
  simp [inB_self hS, expand]

theorem Span.admit2 {S : Nat} {K : List Int} {c : Int} {es : List (Int × Int)} {k : Int} (h : Span S K c es c k) (hS : 1 ≤ S) (hk : 1 ≤ k) : Span S (K ++ [c]) c es c (k + 1) := by
  refine ⟨?_, h.good, h.asc, by omega, fun h => by omega, fun _ => h.sIn hk⟩
  rw [List.filter_append, h.eq, List.append_assoc]
  congr 1
  have e : (k + 1).toNat = k.toNat + 1 := by omega
  rw [e, List.replicate_succ']
  simp [inB_self hS]

theorem Span.admit3 {S : Nat} {K : List Int} {c : Int} {es : List (Int × Int)} {s k : Int} (h : Span S K c es s k) (hS : 1 ≤ S) (hk : 1 ≤ k) (hc : In c) (hlt : s < c) : Span S (K ++ [c]) c (es ++ [(s, k)]) c 1 := by
  have hs := h.sIn hk
  refine ⟨?_, h.good.snoc hs.1 hk hlt, Asc.snoc h.good h.asc, by omega, fun h => by omega, fun _ => ⟨hc, Int.le_refl _, by omega⟩⟩
  rw [List.filter_append, h.eq, expand_append]
  simp [inB_self hS, expand]
end Go.Proofs.Qxb6608745a
