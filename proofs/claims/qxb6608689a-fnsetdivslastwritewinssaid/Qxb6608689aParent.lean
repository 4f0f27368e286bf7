import Derived.Test.Qxb6608689aStr
import Derived.Deep.LoopGhost
namespace Go.Proofs.Qxb6608689a
open Go.RowKit
set_option linter.unusedVariables false

/-- Every dot follows a digit. -/
def Good (s : ByteArray) : Prop := ∀ j, j < s.size → at' s j = 46 → 1 ≤ j ∧ 48 ≤ at' s (j - 1) ∧ at' s (j - 1) ≤ 57

/-- A dot at j that follows an odd digit. -/
def OddDot (s : ByteArray) (j : Nat) : Prop := 1 ≤ j ∧ j < s.size ∧ at' s j = 46 ∧ oddD (at' s (j - 1)) = true

/-- The greatest such place, if there is one. -/
def Best (s : ByteArray) : Option Nat → Prop
  | none => ∀ j, ¬ OddDot s j
  | some j => OddDot s j ∧ ∀ j', j < j' → ¬ OddDot s j'

def pre (s : ByteArray) : Option Nat → ByteArray
  | none => ⟨#[]⟩
  | some j => s.extract 0 j

theorem Best.one {s : ByteArray} : ∀ {r r' : Option Nat}, Best s r → Best s r' → r = r'
  | none, none, _, _ => rfl
  | none, some j, h, h' => absurd h'.1 (h j)
  | some j, none, h, h' => absurd h.1 (h' j)
  | some j, some j', h, h' => by
    by_cases e : j = j'
    · rw [e]
    · exfalso
      rcases Nat.lt_or_gt_of_ne e with g | g
      · exact h.2 j' g h'.1
      · exact h'.2 j g h.1

theorem odd_digit (c : Nat) (h1 : 48 ≤ c) (h2 : c ≤ 57) : (c % 2 == 1) = oddD c := by
  rw [Bool.eq_iff_iff]
  simp [oddD, or_assoc]
  omega

theorem extract_all (s : ByteArray) : s.extract 0 s.size = s := by
  apply ByteArray.ext
  simp

set_option maxHeartbeats 1000000 in
theorem parent_any (s : ByteArray) (w : World) (hs : s.size ≤ 2000000) (hG : Good s) :
    Calls Try.prog 10 #[.agg #[.string s]] w fun e w' => (∃ r, Best s r ∧ e = .returned (.tuple #[.agg #[.string (pre s r)], .bool r.isSome])) ∧ Below w.heap.size w w' := by
  have HGood := hideP hG
  clear hG
  go_enter Try.func10, Try.ntmps10
  go_wp2
  go_loopg [4, 5] s.size (fun g s4 s5 wr => ∃ e : Nat, e ≤ s.size ∧ e ≤ g ∧ s4 = .string (s.extract 0 e) ∧ Hid (∀ j, e ≤ j → ¬ OddDot s j) ∧ wr = (w.alloc (.cells #[.string s] 24)).alloc (.cells #[.string ⟨#[]⟩] 24))
  case atStart => exact ⟨s.size, Nat.le_refl _, Nat.le_refl _, by rw [extract_all], fun j h1 h2 => by have := h2.2.1; omega, rfl⟩
  case round =>
    obtain ⟨e, he, hg, rfl, HN, hwr⟩ := hrel
    subst hwr
    have hts := size_prefix s e he
    have HAT : Hid (∀ i, i < e → at' (s.extract 0 e) i = at' s i) := fun i hi => at_extract s e i he hi
    have HPP : Hid (∀ i, i ≤ e → (s.extract 0 e).extract 0 i = s.extract 0 i) := fun i hi => prefix_prefix s e i he hi
    have H24 := hideP (fun W => lastIndex24 (s.extract 0 e) W (by omega))
    generalize s.extract 0 e = t at hts HAT HPP H24
    have HTS := hideP hts
    clear hts
    go_wp2_with fail
    refine (H24.out _).mono ?_
    rintro e' w1 ⟨⟨r, rfl, hr⟩, hw⟩
    subst w1
    rcases hr with ⟨rfl, hno⟩ | ⟨i, rfl, hi, hdot, hafter⟩
    · have HNO := hideP hno
      clear hno
      go_wp2
      have hb : Best s none := fun j hj => by
        by_cases hje : e ≤ j
        · exact HN.out j hje hj
        · exact HNO.out j (by rw [HTS.out]; omega) (by rw [HAT.out j (by omega)]; exact hj.2.2.1)
      exact bodyPost_ret (v := .tuple #[.agg #[.string ⟨#[]⟩], .bool false]) (by simp [results, Try.results10, go_sem]) rfl ⟨⟨none, hb, rfl⟩, ((Below.refl _ _).alloc (Nat.le_refl _) _).alloc (by simp) _⟩
    · have hie : i < e := by have := HTS.out; omega
      rw [HAT.out i hie] at hdot
      have hg3 := HGood.out i (by omega) hdot
      obtain ⟨n, hn⟩ : ∃ n, i = n + 1 := ⟨i - 1, by omega⟩
      have hsz : (t.extract 0 i).size = i := by have := HTS.out; rw [size_prefix t i (by omega)]
      have ha : at' (t.extract 0 i) n = at' s n := by rw [HPP.out i (by omega), at_extract s i n (by omega) (by omega)]
      have h25 := fun W => oddEnd_any (t.extract 0 i) n W (by rw [hsz, hn]) (by omega) (oddD (at' s n)) (by
        rw [ha]; rw [hn, Nat.add_sub_cancel] at hg3; exact (odd_digit _ hg3.2.1 hg3.2.2).symm)
      have H25 := hideP h25
      have HDOT := hideP hdot
      have HAF := hideP hafter
      have HNN := hideP hn
      have hit : i < t.size := hi
      clear hg3 hn hsz ha h25 hdot hafter hi
      cases hodd : oddD (at' s n)
      · rw [hodd] at H25
        have HODD := hideP hodd
        clear hodd
        go_wp2_with fail
        refine (H25.out _).mono ?_
        rintro e' w1 ⟨rfl, hw⟩
        subst w1
        go_wp2
        go_roundg i
        case measure => omega
        case rel =>
          refine ⟨i, by omega, Nat.le_refl _, by rw [HPP.out i (by omega)], fun j h1 h2 => ?_, rfl⟩
          by_cases hje : e ≤ j
          · exact HN.out j hje h2
          · by_cases eji : j = i
            · subst eji
              have := h2.2.2.2
              rw [HNN.out, Nat.add_sub_cancel, HODD.out] at this
              simp at this
            · exact HAF.out j (by omega) (by rw [HTS.out]; omega) (by rw [HAT.out j (by omega)]; exact h2.2.2.1)
      · rw [hodd] at H25
        have HODD := hideP hodd
        clear hodd
        go_wp2_with fail
        refine (H25.out _).mono ?_
        rintro e' w1 ⟨rfl, hw⟩
        subst w1
        go_wp2
        have hb : Best s (some i) := ⟨⟨by have := HNN.out; omega, by omega, HDOT.out, by rw [HNN.out, Nat.add_sub_cancel]; exact HODD.out⟩, fun j h1 h2 => by
          by_cases hje : e ≤ j
          · exact HN.out j hje h2
          · exact HAF.out j h1 (by rw [HTS.out]; omega) (by rw [HAT.out j (by omega)]; exact h2.2.2.1)⟩
        have hpp := HPP.out i (by omega)
        exact bodyPost_ret (v := .tuple #[.agg #[.string (t.extract 0 i)], .bool true]) (by simp [results, Try.results10, go_sem]) rfl ⟨⟨some i, hb, by rw [hpp]; rfl⟩, ((Below.refl _ _).alloc (Nat.le_refl _) _).alloc (by simp) _⟩
end Go.Proofs.Qxb6608689a
