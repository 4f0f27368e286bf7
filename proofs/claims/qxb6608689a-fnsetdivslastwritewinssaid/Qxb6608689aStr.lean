import Derived.Test.Qxb6608689aProg
import Derived.WalkKit
import Derived.WalkSpells
import Derived.WalkLawsBesides
namespace Go.Proofs.Qxb6608689a
open Go.RowKit
set_option linter.unusedVariables false

theorem hideP {p : Prop} (h : p) : Hid p := h

/-- Byte i of a string, as a number. -/
def at' (t : ByteArray) (i : Nat) : Nat := (t.data.toList.getD i 0).toNat

theorem at_get (t : ByteArray) (i : Nat) (h : i < t.size) : (t[i]'h).toNat = at' t i := by
  unfold at'
  have h' : i < t.data.toList.length := by simpa using h
  have e : t.data.toList.getD i 0 = t.data.toList[i] := by rw [List.getD, List.getElem?_eq_getElem h']; rfl
  rw [e]
  rfl

theorem at_lt (t : ByteArray) (i : Nat) : at' t i < 256 := UInt8.toNat_lt _

theorem at_extract (t : ByteArray) (e i : Nat) (he : e ≤ t.size) (hi : i < e) : at' (t.extract 0 e) i = at' t i := by
  have h1 : i < (t.extract 0 e).size := by simp; omega
  rw [← at_get _ i h1, ← at_get t i (by omega)]
  congr 1
  rw [ByteArray.getElem_extract]
  simp

theorem size_prefix (t : ByteArray) (e : Nat) (he : e ≤ t.size) : (t.extract 0 e).size = e := by simp; omega

theorem prefix_prefix (t : ByteArray) (e i : Nat) (he : e ≤ t.size) (hi : i ≤ e) : (t.extract 0 e).extract 0 i = t.extract 0 i := by
  apply ByteArray.ext
  simp [Nat.min_eq_left hi]

set_option maxHeartbeats 400000 in
theorem lastIndex29 (t : ByteArray) (w : World) (ht : t.size ≤ 2000000) :
    Calls Try.prog 29 #[.string t, .int .u8 46] w fun e w' => (∃ r : Int, e = .returned (.int .i64 r) ∧ ((r = -1 ∧ ∀ j, j < t.size → at' t j ≠ 46) ∨ ∃ i : Nat, r = i ∧ i < t.size ∧ at' t i = 46 ∧ ∀ j, i < j → j < t.size → at' t j ≠ 46)) ∧ w' = w := by
  go_enter Try.func29, Try.ntmps29
  go_wp2
  go_loop [5] (fun s5 => ∃ z : Int, s5 = .int .i64 z ∧ -1 ≤ z ∧ z < t.size ∧ Hid (∀ j : Nat, z < j → j < t.size → at' t j ≠ 46)) (fun s5 => (intOf s5 + 1).toNat)
  case atStart => exact ⟨_, rfl, by omega, by omega, fun j h1 h2 => by omega⟩
  case round =>
    obtain ⟨z, rfl, hz1, hz2, HN⟩ := hrel
    by_cases h0 : 0 ≤ z
    · obtain ⟨k, rfl⟩ := Int.eq_ofNat_of_zero_le h0
      have hk : k < t.size := by omega
      by_cases hc : at' t k = 46
      · have hb : (((t[k]'hk).toNat : Int) == 46) = true := by rw [at_get t k hk, hc]; rfl
        have HCC := hideP hc
        clear hc
        go_wp2
        go_ret
        exact ⟨⟨_, rfl, Or.inr ⟨k, rfl, hk, HCC.out, fun j h1 h2 => HN.out j (by omega) h2⟩⟩, rfl⟩
      · have hb : (((t[k]'hk).toNat : Int) == 46) = false := by rw [at_get t k hk]; simp; omega
        have HCC := hideP hc
        clear hc
        go_wp2
        go_round
        case rel => exact ⟨_, rfl, by omega, by omega, fun j h1 h2 => by
            by_cases e : j = k
            · rw [e]; exact HCC.out
            · exact HN.out j (by omega) h2⟩
        case measure => simp [intOf]
    · go_wp2
      go_ret
      exact ⟨⟨_, rfl, Or.inl ⟨rfl, fun j hj => HN.out j (by omega) hj⟩⟩, rfl⟩

set_option maxHeartbeats 400000 in
theorem lastIndex24 (t : ByteArray) (w : World) (ht : t.size ≤ 2000000) :
    Calls Try.prog 24 #[.string t, .int .u8 46] w fun e w' => (∃ r : Int, e = .returned (.int .i64 r) ∧ ((r = -1 ∧ ∀ j, j < t.size → at' t j ≠ 46) ∨ ∃ i : Nat, r = i ∧ i < t.size ∧ at' t i = 46 ∧ ∀ j, i < j → j < t.size → at' t j ≠ 46)) ∧ w' = w := by
  have H := hideP (lastIndex29 t w ht)
  go_enter Try.func24, Try.ntmps24
  go_wp2_with fail
  refine H.out.mono ?_
  rintro e w1 ⟨⟨r, rfl, hr⟩, hw⟩
  subst w1
  have HR := hideP hr
  clear hr
  go_wp2
  go_ret
  exact ⟨⟨_, rfl, HR.out⟩, rfl⟩

/-- An odd digit. -/
def oddD (c : Nat) : Bool := c == 49 || c == 51 || c == 53 || c == 55 || c == 57

theorem ret_bool {a b : Bool} (h : a = b) : Ending.returned (.bool a) = .returned (.bool b) := by rw [h]

theorem oddD_no (c : Nat) (h : ¬ (c = 49 ∨ c = 51 ∨ c = 53 ∨ c = 55 ∨ c = 57)) : oddD c = false := by
  simp [oddD]; omega

set_option maxHeartbeats 400000 in
theorem oddDigit_any (c : Nat) (w : World) (hc : c < 256) :
    Calls Try.prog 15 #[.int .u8 c] w fun e w' => e = .returned (.bool (oddD c)) ∧ w' = w := by
  by_cases h : c = 49 ∨ c = 51 ∨ c = 53 ∨ c = 55 ∨ c = 57
  · rcases h with rfl | rfl | rfl | rfl | rfl
    all_goals
      go_enter Try.func15, Try.ntmps15
      go_wp2
      go_ret
      exact ⟨rfl, rfl⟩
  · have ho := oddD_no c h
    rw [ho]
    have h1 : ((c : Int) == 49) = false := by simp; omega
    have h2 : ((c : Int) == 51) = false := by simp; omega
    have h3 : ((c : Int) == 53) = false := by simp; omega
    have h4 : ((c : Int) == 55) = false := by simp; omega
    have h5 : ((c : Int) == 57) = false := by simp; omega
    clear ho h
    go_enter Try.func15, Try.ntmps15
    go_wp2
    go_ret
    exact ⟨rfl, rfl⟩

theorem isEmpty_iff (t : ByteArray) : t.toList.isEmpty = decide (t.size = 0) := by
  rw [ByteArray.toList_eq]
  obtain ⟨⟨l⟩⟩ := t
  cases l <;> simp [ByteArray.size]

set_option maxHeartbeats 400000 in
theorem oddEnd_no (t : ByteArray) (w : World) (h0 : t.size = 0) :
    Calls Try.prog 25 #[.string t] w fun e w' => e = .returned (.bool false) ∧ w' = w := by
  have he : t.toList.isEmpty = true := by rw [isEmpty_iff]; simp [h0]
  clear h0
  go_enter Try.func25, Try.ntmps25
  go_wp2
  go_ret
  exact ⟨rfl, rfl⟩

set_option maxHeartbeats 400000 in
theorem oddEnd_any (t : ByteArray) (n : Nat) (w : World) (h0 : t.size = n + 1) (ht : t.size ≤ 2000000) (b : Bool) (hb : b = ((at' t n) % 2 == 1)) :
    Calls Try.prog 25 #[.string t] w fun e w' => e = .returned (.bool b) ∧ w' = w := by
  have he : t.toList.isEmpty = false := by rw [isEmpty_iff]; simp [h0]
  have hn : t.size - 1 < t.size := by omega
  have hg : (t[t.size - 1]'hn).toNat = at' t n := by rw [at_get t _ hn, h0]; rfl
  have hl := at_lt t n
  have HG := hideP (And.intro hg hb)
  have hp : 0 < t.size := by omega
  clear hg h0 hb
  go_enter Try.func25, Try.ntmps25
  go_wp2
  go_ret
  refine ⟨ret_bool ?_, rfl⟩
  rw [HG.out.2, ← HG.out.1]
  rw [Bool.eq_iff_iff]
  simp
  omega
end Go.Proofs.Qxb6608689a
