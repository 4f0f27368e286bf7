import Derived.Test.Qxb6608689aParent
namespace Go.Proofs.Qxb6608689a
open Go.RowKit
set_option linter.unusedVariables false

/-- The call came back with a bool; if with true, then p. -/
def Tells (e : Ending) (p : Prop) : Prop := ∃ b, e = .returned (.bool b) ∧ (b = true → p)

def GoodTo (s : ByteArray) (k : Nat) : Prop := ∀ j, j < k → j < s.size → at' s j = 46 → 1 ≤ j ∧ 48 ≤ at' s (j - 1) ∧ at' s (j - 1) ≤ 57
def DigTo (s : ByteArray) (st k : Nat) : Prop := ∀ j, st ≤ j → j < k → 48 ≤ at' s j ∧ at' s j ≤ 57

theorem goodTo_step {s : ByteArray} {k : Nat} (h : GoodTo s k) (hk : k < s.size → at' s k = 46 → 1 ≤ k ∧ 48 ≤ at' s (k - 1) ∧ at' s (k - 1) ≤ 57) : GoodTo s (k + 1) := fun j h1 h2 h3 => by
  by_cases e : j = k
  · subst e; exact hk h2 h3
  · exact h j (by omega) h2 h3

set_option maxHeartbeats 1000000 in
theorem valid_any (s : ByteArray) (w : World) (hs : s.size ≤ 2000000) :
    Calls Try.prog 8 #[.string s] w fun e w' => Tells e (Good s) ∧ w' = w := by
  by_cases hz : s.size = 0
  · have hzb : ((s.size : Int) == 0) = true := by simp [hz]
    clear hz
    go_enter Try.func8, Try.ntmps8
    go_wp2
    go_ret
    exact ⟨⟨_, rfl, by simp⟩, rfl⟩
  · have hzb : ((s.size : Int) == 0) = false := beq_eq_false_iff_ne.2 (by omega)
    go_enter Try.func8, Try.ntmps8
    go_wp2
    go_loop [3, 4] (fun s3 s4 => ∃ st k : Nat, s3 = .int .i64 st ∧ s4 = .int .i64 k ∧ st ≤ k ∧ k ≤ s.size + 1 ∧ Hid (GoodTo s k) ∧ Hid (DigTo s st k)) (fun _ s4 => s.size + 1 - (intOf s4).toNat)
    case atStart => exact ⟨0, 0, rfl, rfl, Nat.le_refl _, by omega, fun j h => absurd h (Nat.not_lt_zero _), fun j h1 h2 => by omega⟩
    case round =>
      obtain ⟨st, k, rfl, rfl, h1, h2, HGT, HDT⟩ := hrel
      by_cases hk : k ≤ s.size
      · by_cases hend : k = s.size
        · have hke : ((k : Int) == (s.size : Int)) = true := by simp [hend]
          by_cases hst : st = k
          · have hse : ((k : Int) == (st : Int)) = true := by simp [hst]
            have X := hideP (And.intro hend hst)
            clear hend hst
            go_wp2
            go_ret
            exact ⟨⟨_, rfl, by simp⟩, rfl⟩
          · have hse : ((k : Int) == (st : Int)) = false := by simp; omega
            have hsk : st < s.size := by omega
            have X := hideP (And.intro hend hst)
            clear hend hst
            go_wp2
            · go_ret
              exact ⟨⟨_, rfl, by simp⟩, rfl⟩
            go_round
            case rel => exact ⟨k + 1, k + 1, by go_num, by go_num, Nat.le_refl _, by omega, goodTo_step HGT.out (fun h => by have := X.out.1; omega), fun j h3 h4 => by omega⟩
            case measure => simp [intOf]; omega
        · have hke : ((k : Int) == (s.size : Int)) = false := by simp; omega
          have hks : k < s.size := by omega
          have hg := at_get s k hks
          by_cases hdot : at' s k = 46
          · have hdb : (((s[k]'hks).toNat : Int) == 46) = true := by rw [hg, hdot]; rfl
            by_cases hst : st = k
            · have hse : ((k : Int) == (st : Int)) = true := by simp [hst]
              have X := hideP (And.intro hdot hst)
              clear hdot hst hend hg
              go_wp2
              go_ret
              exact ⟨⟨_, rfl, by simp⟩, rfl⟩
            · have hse : ((k : Int) == (st : Int)) = false := by simp; omega
              have hsk : st < s.size := by omega
              have X := hideP (And.intro hdot hst)
              clear hdot hst hend hg
              go_wp2
              · go_ret
                exact ⟨⟨_, rfl, by simp⟩, rfl⟩
              go_round
              case rel => exact ⟨k + 1, k + 1, by go_num, by go_num, Nat.le_refl _, by omega, goodTo_step HGT.out (fun _ _ => by
                have := X.out.2
                have hd := HDT.out (k - 1) (by omega) (by omega)
                exact ⟨by omega, hd⟩), fun j h3 h4 => by omega⟩
              case measure => simp [intOf]; omega
          · have hdb : (((s[k]'hks).toNat : Int) == 46) = false := by rw [hg]; simp; omega
            by_cases hlo : at' s k < 48
            · have hlb : ((s[k]'hks).toNat : Int) < 48 := by rw [hg]; omega
              clear hdot hend hg hlo
              go_wp2
              go_ret
              exact ⟨⟨_, rfl, by simp⟩, rfl⟩
            · have hlb : ¬ ((s[k]'hks).toNat : Int) < 48 := by rw [hg]; omega
              by_cases hhi : 57 < at' s k
              · have hhb : (57 : Int) < ((s[k]'hks).toNat : Int) := by rw [hg]; omega
                clear hdot hend hg hlo hhi
                go_wp2
                go_ret
                exact ⟨⟨_, rfl, by simp⟩, rfl⟩
              · have hhb : ¬ (57 : Int) < ((s[k]'hks).toNat : Int) := by rw [hg]; omega
                have X := hideP (And.intro hdot (And.intro hlo hhi))
                clear hdot hend hg hlo hhi
                go_wp2
                go_round
                case rel => exact ⟨st, k + 1, rfl, by go_num, by omega, by omega, goodTo_step HGT.out (fun _ h => absurd h X.out.1), fun j h3 h4 => by
                  by_cases e : j = k
                  · subst e; have := X.out.2; omega
                  · exact HDT.out j h3 (by omega)⟩
                case measure => simp [intOf]; omega
      · have hp : s.size - 1 < s.size := by omega
        have hl := at_lt s (s.size - 1)
        have h15 := fun W => oddDigit_any (at' s (s.size - 1)) W hl
        rw [← at_get s _ hp] at h15
        have H15 := hideP h15
        have HGG : Hid (Good s) := fun j h3 h4 => HGT.out j (by omega) h3 h4
        clear h15
        go_wp2_with fail
        refine (H15.out _).mono ?_
        rintro e w1 ⟨rfl, hw⟩
        subst w1
        go_wp2
        go_ret
        exact ⟨⟨_, rfl, fun _ => HGG.out⟩, rfl⟩

/-- The greatest one below k, if there is one. -/
def BestTo (s : ByteArray) (k : Nat) : Option Nat → Prop
  | none => ∀ j, j < k → ¬ OddDot s j
  | some j => j < k ∧ OddDot s j ∧ ∀ j', j < j' → j' < k → ¬ OddDot s j'

theorem best_step {s : ByteArray} {k : Nat} (hn : ¬ OddDot s k) : ∀ {r : Option Nat}, BestTo s k r → BestTo s (k + 1) r
  | none, hr => fun j hj => by
    by_cases e : j = k
    · rw [e]; exact hn
    · exact hr j (by omega)
  | some b, hr => ⟨by have := hr.1; omega, hr.2.1, fun j' h1 h2 => by
    by_cases e : j' = k
    · rw [e]; exact hn
    · exact hr.2.2 j' h1 (by omega)⟩

theorem best_hit {s : ByteArray} {k : Nat} (hy : OddDot s k) : BestTo s (k + 1) (some k) := ⟨by omega, hy, fun j' h1 h2 => by omega⟩

theorem best_end {s : ByteArray} {k : Nat} (hk : s.size ≤ k) : ∀ {r : Option Nat}, BestTo s k r → Best s r
  | none, hr => fun j hj => hr j (by have := hj.2.1; omega) hj
  | some b, hr => ⟨hr.2.1, fun j' h1 h2 => hr.2.2 j' h1 (by have := h2.2.1; omega) h2⟩

def bestV : Option Nat → Int
  | none => -1
  | some j => j

set_option maxHeartbeats 1000000 in
theorem longest_any (s : ByteArray) (w : World) (hs : s.size ≤ 2000000) :
    Calls Try.prog 11 #[.string s] w fun e w' => (∃ r, Best s r ∧ e = .returned (.tuple #[.string (pre s r), .bool r.isSome])) ∧ w' = w := by
  go_enter Try.func11, Try.ntmps11
  go_wp2
  go_loop [4, 5] (fun s4 s5 => ∃ (k : Nat) (r : Option Nat), s5 = .int .i64 (k + 1) ∧ s4 = .int .i64 (bestV r) ∧ (k + 1 ≤ s.size ∨ k = 0) ∧ Hid (BestTo s (k + 1) r)) (fun _ s5 => s.size - (intOf s5).toNat)
  case atStart => exact ⟨0, none, rfl, rfl, Or.inr rfl, fun j h1 h2 => by have := h2.1; omega⟩
  case round =>
    obtain ⟨k, r, rfl, rfl, hkk, HB⟩ := hrel
    by_cases hlt : k + 1 < s.size
    · have hk0 : k < s.size := by omega
      have g1 := at_get s (k + 1) hlt
      have g0 := at_get s k hk0
      have hkz : (k : Int) + 1 < (s.size : Int) := by omega
      by_cases hdot : at' s (k + 1) = 46
      · have hdb : (((s[k + 1]'hlt).toNat : Int) == 46) = true := by rw [g1, hdot]; rfl
        have h15 := fun W => oddDigit_any (at' s k) W (at_lt s k)
        cases hodd : oddD (at' s k)
        · rw [hodd, ← g0] at h15
          have H15 := hideP h15
          have HN : Hid (¬ OddDot s (k + 1)) := fun h => by have := h.2.2.2; rw [Nat.add_sub_cancel, hodd] at this; simp at this
          clear h15 g0 g1 hdot hodd
          go_wp2_with fail
          refine (H15.out _).mono ?_
          rintro e w1 ⟨rfl, hw⟩
          subst w1
          go_wp2
          go_round
          case rel => exact ⟨k + 1, r, by go_num, rfl, Or.inl (by omega), best_step HN.out HB.out⟩
          case measure => simp [intOf]; omega
        · rw [hodd, ← g0] at h15
          have H15 := hideP h15
          have HY : Hid (OddDot s (k + 1)) := ⟨by omega, hlt, hdot, by rw [Nat.add_sub_cancel]; exact hodd⟩
          clear h15 g0 g1 hdot hodd
          go_wp2_with fail
          refine (H15.out _).mono ?_
          rintro e w1 ⟨rfl, hw⟩
          subst w1
          go_wp2
          go_round
          case rel => exact ⟨k + 1, some (k + 1), by go_num, by simp [bestV], Or.inl (by omega), best_hit HY.out⟩
          case measure => simp [intOf]; omega
      · have hdb : (((s[k + 1]'hlt).toNat : Int) == 46) = false := by rw [g1]; simp; omega
        have HN : Hid (¬ OddDot s (k + 1)) := fun h => hdot h.2.2.1
        clear g0 g1 hdot
        go_wp2
        go_round
        case rel => exact ⟨k + 1, r, by go_num, rfl, Or.inl (by omega), best_step HN.out HB.out⟩
        case measure => simp [intOf]; omega
    · have HE := hideP (best_end (by omega) HB.out)
      cases r with
      | none =>
        simp only [bestV]
        go_wp2
        go_ret2
        exact ⟨⟨none, HE.out, rfl⟩, rfl⟩
      | some j =>
        have hj : j < s.size := HE.out.1.2.1
        simp only [bestV]
        go_wp2
        go_ret2
        exact ⟨⟨some j, HE.out, rfl⟩, rfl⟩

set_option maxHeartbeats 400000 in
theorem bytes7_any (s : ByteArray) (w : World) (hs : s.size ≤ maxLen) :
    Calls Try.prog 7 #[.string s] w fun e w' => Tells e (s.size ≤ 1048576) ∧ w' = w := by
  unfold maxLen at hs
  by_cases h : s.size ≤ 1048576
  · go_enter Try.func7, Try.ntmps7
    go_wp2
    go_ret
    exact ⟨⟨_, rfl, fun _ => h⟩, rfl⟩
  · go_enter Try.func7, Try.ntmps7
    go_wp2
    go_ret
    exact ⟨⟨_, rfl, by simp⟩, rfl⟩

set_option maxHeartbeats 400000 in
theorem label9_any (s : ByteArray) (w : World) :
    Calls Try.prog 9 #[.string s] w fun e w' => e = .returned (.agg #[.string s]) ∧ Below w.heap.size w w' := by
  go_enter Try.func9, Try.ntmps9
  go_wp2
  exact bodyPost_ret (v := .agg #[.string s]) (by simp [results, Try.results9, go_sem]) rfl ⟨rfl, (Below.refl _ _).alloc (Nat.le_refl _) _⟩

set_option maxHeartbeats 400000 in
theorem text12_any (s : ByteArray) (w : World) :
    Calls Try.prog 12 #[.agg #[.string s]] w fun e w' => e = .returned (.string s) ∧ Below w.heap.size w w' := by
  go_enter Try.func12, Try.ntmps12
  go_wp2
  go_ret
  exact ⟨rfl, (Below.refl _ _).alloc (Nat.le_refl _) _⟩

set_option maxHeartbeats 1000000 in
theorem law3 (s : ByteArray) (w : World) (hs : s.size ≤ maxLen) :
    Calls Try.prog 3 #[.string s] w fun e w' => e = .returned (.bool true) ∧ Below w.heap.size w w' := by
  have H7 := hideP (bytes7_any s w hs)
  unfold maxLen at hs
  by_cases hsz : s.size ≤ 1048576
  · have H8 := hideP (valid_any s w (by omega))
    have H9 := hideP (label9_any s w)
    have H11 := hideP (fun W => longest_any s W (by omega))
    go_enter Try.func3, Try.ntmps3
    go_wp2_with fail
    refine H7.out.mono ?_
    rintro e w1 ⟨⟨b, rfl, hb⟩, hw⟩
    subst w1
    clear hb
    cases b
    · go_wp2
      go_ret
      exact ⟨rfl, Below.refl _ _⟩
    go_wp2_with fail
    refine H8.out.mono ?_
    rintro e w1 ⟨⟨b, rfl, hb⟩, hw⟩
    subst w1
    cases b
    · clear hb
      go_wp2
      go_ret
      exact ⟨rfl, Below.refl _ _⟩
    have H10 := hideP (fun W => parent_any s W (by omega) (hb rfl))
    clear hb
    go_wp2_with fail
    refine H9.out.mono ?_
    rintro e w1 ⟨rfl, hb1⟩
    have HB1 := hideP hb1
    clear hb1
    go_wp2_with fail
    refine (H10.out _).mono ?_
    rintro e w2 ⟨⟨r, hr, rfl⟩, hb2⟩
    have HR := hideP hr
    have HB2 : Hid (Below w.heap.size w w2) := HB1.out.trans (hb2.mono HB1.out.size)
    clear hr hb2
    go_wp2_with fail
    refine (H11.out _).mono ?_
    rintro e w3 ⟨⟨r', hr', rfl⟩, hw⟩
    subst w3
    have er : r = r' := HR.out.one hr'
    subst er
    clear hr'
    generalize pre s r = t
    have H12 := hideP (fun W => text12_any t W)
    cases r.isSome
    all_goals
      go_wp2_with fail
      refine (H12.out _).mono ?_
      rintro e w4 ⟨rfl, hb4⟩
      have HB4 := hideP hb4
      clear hb4
      go_wp2
      go_ret
      exact ⟨by simp, (HB2.out.alloc (by have := HB2.out.size; omega) _).trans (HB4.out.mono (by have := HB2.out.size; simp; omega))⟩
  · go_enter Try.func3, Try.ntmps3
    go_wp2_with fail
    refine H7.out.mono ?_
    rintro e w1 ⟨⟨b, rfl, hb⟩, hw⟩
    subst w1
    cases b
    · clear hb
      go_wp2
      go_ret
      exact ⟨rfl, Below.refl _ _⟩
    · exact absurd (hb rfl) hsz
end Go.Proofs.Qxb6608689a
