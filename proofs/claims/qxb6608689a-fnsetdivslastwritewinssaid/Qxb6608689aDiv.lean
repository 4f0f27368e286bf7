import Derived.Test.Qxb6608689aLabel
import Derived.Laws.IdiomStrings
namespace Go.Proofs.Qxb6608689a
open Go.RowKit
set_option linter.unusedVariables false

/-- One division of at most nine digits. -/
def One (s : ByteArray) : Prop := 1 ≤ s.size ∧ s.size ≤ 9 ∧ at' s 0 ≠ 48 ∧ ∀ j, j < s.size → 48 ≤ at' s j ∧ at' s j ≤ 57

def numTo (s : ByteArray) : Nat → Nat
  | 0 => 0
  | k + 1 => numTo s k * 10 + (at' s k - 48)

theorem numTo_lt {s : ByteArray} (h : ∀ j, j < s.size → 48 ≤ at' s j ∧ at' s j ≤ 57) : ∀ k, k ≤ s.size → numTo s k < 10 ^ k
  | 0, _ => by simp [numTo]
  | k + 1, hk => by
    have := numTo_lt h k (by omega)
    have := h k (by omega)
    simp only [numTo, Nat.pow_succ]
    omega

theorem numTo_pos {s : ByteArray} (h : One s) : ∀ k, 1 ≤ k → k ≤ s.size → 1 ≤ numTo s k
  | 0, h1, _ => by omega
  | 1, _, _ => by
    have := h.2.2.2 0 (by have := h.1; omega)
    have := h.2.2.1
    simp only [numTo]
    omega
  | k + 2, _, hk => by
    have := numTo_pos h (k + 1) (by omega) (by omega)
    simp only [numTo] at *
    omega

theorem numTo_bound {s : ByteArray} (h : ∀ j, j < s.size → 48 ≤ at' s j ∧ at' s j ≤ 57) (h9 : s.size ≤ 9) (k : Nat) (hk : k ≤ s.size) : numTo s k ≤ 999999999 ∧ (k < s.size → numTo s k ≤ 99999999) := by
  have h1 := numTo_lt h k hk
  constructor
  · have : 10 ^ k ≤ 10 ^ 9 := Nat.pow_le_pow_right (by omega) (by omega)
    omega
  · intro hlt
    have : 10 ^ k ≤ 10 ^ 8 := Nat.pow_le_pow_right (by omega) (by omega)
    omega

def DivSays (s : ByteArray) (d : Nat) : Prop := (One s → d = numTo s s.size) ∧ (¬ One s → d = 0)

theorem DivSays.no {s : ByteArray} (h : ¬ One s) : DivSays s 0 := ⟨fun h' => absurd h' h, fun _ => rfl⟩

/-- What divNumber hands back. -/
def DivRet (s : ByteArray) (e : Ending) : Prop := ∃ (d : Nat) (b : Bool), e = .returned (.tuple #[.int .u32 d, .bool b]) ∧ DivSays s d

def DigB (s : ByteArray) (k : Nat) : Prop := ∀ j, j < k → 48 ≤ at' s j ∧ at' s j ≤ 57

set_option maxHeartbeats 1000000 in
theorem divNumber_any (s : ByteArray) (w : World) (hs : s.size ≤ 2000000) :
    Calls Try.prog 30 #[.string s] w fun e w' => DivRet s e ∧ w' = w := by
  by_cases hz : s.size = 0
  · have he : s.toList.isEmpty = true := by rw [isEmpty_iff]; simp [hz]
    have HN : Hid (¬ One s) := fun h => by have := h.1; omega
    clear hz
    go_enter Try.func30, Try.ntmps30
    go_wp2
    go_ret2
    exact ⟨⟨0, _, rfl, .no HN.out⟩, rfl⟩
  · have he : s.toList.isEmpty = false := by rw [isEmpty_iff]; simp [hz]
    have hp : 0 < s.size := by omega
    clear hz
    by_cases h9 : s.size ≤ 9
    · have g0 := at_get s 0 hp
      by_cases h48 : at' s 0 = 48
      · have hb : (((s[0]'hp).toNat : Int) == 48) = true := by rw [g0, h48]; rfl
        have HN : Hid (¬ One s) := fun h => h.2.2.1 h48
        clear g0 h48
        go_enter Try.func30, Try.ntmps30
        go_wp2
        go_ret2
        exact ⟨⟨0, _, rfl, .no HN.out⟩, rfl⟩
      · have hb : (((s[0]'hp).toNat : Int) == 48) = false := by rw [g0]; simp; omega
        have H48 := hideP h48
        clear g0 h48
        go_enter Try.func30, Try.ntmps30
        go_wp2
        go_loop [4, 5, 6] (fun s4 s5 s6 => ∃ k : Nat, s4 = .int .u32 (numTo s k) ∧ s5 = .int .i64 k ∧ k ≤ s.size ∧ Hid (DigB s k)) (fun _ s5 _ => s.size - (intOf s5).toNat)
        case atStart => exact ⟨0, rfl, rfl, by omega, fun j h => absurd h (Nat.not_lt_zero _)⟩
        case round =>
          obtain ⟨k, rfl, rfl, hk, HD⟩ := hrel
          by_cases hlt : k < s.size
          · have g := at_get s k hlt
            by_cases hdg : 48 ≤ at' s k ∧ at' s k ≤ 57
            · have b1 : (48 : Int) ≤ ((s[k]'hlt).toNat : Int) := by rw [g]; omega
              have b2 : ((s[k]'hlt).toNat : Int) ≤ 57 := by rw [g]; omega
              have HD2 : Hid (DigB s (k + 1)) := fun j hj => by
                by_cases e : j = k
                · subst e; exact hdg
                · exact HD.out j (by omega)
              have hnb : numTo s k ≤ 99999999 := by
                have h1 : ∀ k', k' ≤ k → numTo s k' < 10 ^ k' := fun k' => by
                  induction k' with
                  | zero => intro _; simp [numTo]
                  | succ k' ih => intro hk'; have := ih (by omega); have := HD.out k' (by omega); simp only [numTo, Nat.pow_succ]; omega
                have h2 := h1 k (Nat.le_refl _)
                have : 10 ^ k ≤ 10 ^ 8 := Nat.pow_le_pow_right (by omega) (by omega)
                omega
              have HS : Hid (numTo s (k + 1) = numTo s k * 10 + ((s[k]'hlt).toNat - 48)) := by show _ = _; rw [g]; rfl
              clear g hdg
              generalize numTo s k = d at hnb HS
              go_wp2
              go_round
              case rel => exact ⟨k + 1, by rw [HS.out]; go_num, by go_num, by omega, HD2.out⟩
              case measure => simp [intOf]; omega
            · have HN : Hid (¬ One s) := fun h => hdg (h.2.2.2 k hlt)
              by_cases hlo : at' s k < 48
              · have b1 : ((s[k]'hlt).toNat : Int) < 48 := by rw [g]; omega
                clear g hdg hlo
                go_wp2
                go_ret2
                exact ⟨⟨0, _, rfl, .no HN.out⟩, rfl⟩
              · have b1 : ¬ ((s[k]'hlt).toNat : Int) < 48 := by rw [g]; omega
                have b2 : (57 : Int) < ((s[k]'hlt).toNat : Int) := by rw [g]; omega
                clear g hdg hlo
                go_wp2
                go_ret2
                exact ⟨⟨0, _, rfl, .no HN.out⟩, rfl⟩
          · have ek : k = s.size := by omega
            have HY : Hid (One s) := ⟨hp, h9, H48.out, fun j hj => HD.out j (by omega)⟩
            have EK := hideP ek
            clear ek
            go_wp2
            go_ret2
            exact ⟨⟨numTo s k, _, rfl, fun _ => by rw [EK.out], fun h => absurd HY.out h⟩, rfl⟩
    · have HN : Hid (¬ One s) := fun h => h9 h.2.1
      go_enter Try.func30, Try.ntmps30
      go_wp2
      go_ret2
      exact ⟨⟨0, _, rfl, .no HN.out⟩, rfl⟩

set_option maxHeartbeats 1000000 in
theorem oneDivision_any (s : ByteArray) (w : World) (hs : s.size ≤ 2000000) (b : Bool) (hb : b = true ↔ One s) :
    Calls Try.prog 27 #[.string s] w fun e w' => e = .returned (.bool b) ∧ w' = w := by
  by_cases h0 : 1 ≤ s.size
  · have hp : 0 < s.size := by omega
    by_cases h9 : s.size ≤ 9
    · have g0 := at_get s 0 hp
      by_cases h48 : at' s 0 = 48
      · have hbb : (((s[0]'hp).toNat : Int) == 48) = true := by rw [g0, h48]; rfl
        have e : b = false := by cases b with | false => rfl | true => exact absurd h48 (hb.1 rfl).2.2.1
        subst e
        clear g0 h48 hb
        go_enter Try.func27, Try.ntmps27
        go_wp2
        go_ret
        exact ⟨rfl, rfl⟩
      · have hbb : (((s[0]'hp).toNat : Int) == 48) = false := by rw [g0]; simp; omega
        have H48 := hideP h48
        have HB := hideP hb
        clear g0 h48 hb
        go_enter Try.func27, Try.ntmps27
        go_wp2
        go_loop [3] (fun s3 => ∃ k : Nat, s3 = .int .i64 k ∧ k ≤ s.size ∧ Hid (DigB s k)) (fun s3 => s.size - (intOf s3).toNat)
        case atStart => exact ⟨0, rfl, by omega, fun j h => absurd h (Nat.not_lt_zero _)⟩
        case round =>
          obtain ⟨k, rfl, hk, HD⟩ := hrel
          by_cases hlt : k < s.size
          · have g := at_get s k hlt
            by_cases hlo : at' s k < 48
            · have b1 : ((s[k]'hlt).toNat : Int) < 48 := by rw [g]; omega
              have e : b = false := by cases b with | false => rfl | true => have := ((HB.out.1 rfl).2.2.2 k hlt).1; omega
              subst e
              clear g hlo
              go_wp2
              go_ret
              exact ⟨rfl, rfl⟩
            · have b1 : ¬ ((s[k]'hlt).toNat : Int) < 48 := by rw [g]; omega
              by_cases hhi : 57 < at' s k
              · have b2 : (57 : Int) < ((s[k]'hlt).toNat : Int) := by rw [g]; omega
                have e : b = false := by cases b with | false => rfl | true => have := ((HB.out.1 rfl).2.2.2 k hlt).2; omega
                subst e
                clear g hlo hhi
                go_wp2
                go_ret
                exact ⟨rfl, rfl⟩
              · have b2 : ¬ (57 : Int) < ((s[k]'hlt).toNat : Int) := by rw [g]; omega
                have HD2 : Hid (DigB s (k + 1)) := fun j hj => by
                  by_cases e : j = k
                  · subst e; omega
                  · exact HD.out j (by omega)
                clear g hlo hhi
                go_wp2
                go_round
                case rel => exact ⟨k + 1, by go_num, by omega, HD2.out⟩
                case measure => simp [intOf]; omega
          · have e : b = true := HB.out.2 ⟨h0, h9, H48.out, fun j hj => HD.out j (by omega)⟩
            subst e
            go_wp2
            go_ret
            exact ⟨rfl, rfl⟩
    · have e : b = false := by cases b with | false => rfl | true => exact absurd (hb.1 rfl).2.1 h9
      subst e
      clear hb
      go_enter Try.func27, Try.ntmps27
      go_wp2
      go_ret
      exact ⟨rfl, rfl⟩
  · have e : b = false := by cases b with | false => rfl | true => exact absurd (hb.1 rfl).1 h0
    subst e
    clear hb
    go_enter Try.func27, Try.ntmps27
    go_wp2
    go_ret
    exact ⟨rfl, rfl⟩

set_option maxHeartbeats 400000 in
theorem bytes16_any (s t : ByteArray) (w : World) (hs : s.size ≤ maxLen) (ht : t.size ≤ maxLen) :
    Calls Try.prog 16 #[.string s, .string t] w fun e w' => Tells e (s.size ≤ 1048576 ∧ t.size ≤ 1048576) ∧ w' = w := by
  unfold maxLen at hs ht
  by_cases h1 : s.size ≤ 1048576
  · by_cases h2 : t.size ≤ 1048576
    · by_cases h3 : s.size + t.size ≤ 1048576
      · go_enter Try.func16, Try.ntmps16
        go_wp2
        go_ret
        exact ⟨⟨_, rfl, fun _ => ⟨h1, h2⟩⟩, rfl⟩
      · go_enter Try.func16, Try.ntmps16
        go_wp2
        go_ret
        exact ⟨⟨_, rfl, by simp⟩, rfl⟩
    · go_enter Try.func16, Try.ntmps16
      go_wp2
      go_ret
      exact ⟨⟨_, rfl, by simp⟩, rfl⟩
  · go_enter Try.func16, Try.ntmps16
    go_wp2
    go_ret
    exact ⟨⟨_, rfl, by simp⟩, rfl⟩
end Go.Proofs.Qxb6608689a
