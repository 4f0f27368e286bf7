import Derived.Test.Qxb6613578aSame
namespace Go.Proofs.Qxb6613578a
open Go.RowKit
set_option linter.unusedVariables false

/-- A bool came back; where it is true the row is short. -/
def AnsB (n : Nat) (e : Ending) : Prop := ∃ b, e = .returned (.bool b) ∧ (b = true → n ≤ 1048576)

theorem addNames_any (x : Int) (a : Option Addr) (n c : Nat) (ls : List ByteArray) (w : World) (hN : n ≤ 1048576) (A : ArgRow w a n (fun i => .string (ls.getD i ByteArray.empty))) :
    Calls Try.prog 10 #[.int .i64 x, .slice a n c] w fun e w' => (∃ y, e = .returned (.int .i64 y)) ∧ w' = w := by
  have HA := hideP A
  clear A
  go_enter Try.func10, Try.ntmps10
  go_wp2
  go_loop [0, 5] (fun z i => ∃ (k : Nat) (y : Int), k ≤ n ∧ i = .int .i64 k ∧ z = .int .i64 y) (fun _ i => n - (intOf i).toNat)
  case atStart => exact ⟨0, _, Nat.zero_le _, rfl, rfl⟩
  case round =>
    obtain ⟨k, y, hk, rfl, rfl⟩ := hrel
    by_cases hlt : k < n
    · obtain ⟨b1, o1, ha1, hb1, hc1⟩ := HA.out k hlt
      subst ha1
      have d1 : w.cell? ⟨b1, o1 + k, none⟩ = some (.string (ls.getD k ByteArray.empty)) := hc1 k hlt
      generalize ls.getD k ByteArray.empty = lb at d1
      clear hc1
      have hkz : (k : Int) < (n : Int) := by omega
      go_wp2
      · go_ret; exact ⟨⟨_, rfl⟩, rfl⟩
      · go_ret; exact ⟨⟨_, rfl⟩, rfl⟩
      go_round
      case rel => exact ⟨k + 1, _, by omega, by go_num, rfl⟩
      case measure => simp [intOf]; omega
    · go_wp2
      go_ret; exact ⟨⟨_, rfl⟩, rfl⟩

set_option maxHeartbeats 1000000 in
theorem bytes26_any (x : Value) (nm : ByteArray) (a : Option Addr) (n c : Nat) (ls : List ByteArray) (w : World) (hm : n ≤ maxLen) (A : ArgRow w a n (fun i => .string (ls.getD i ByteArray.empty))) :
    Calls Try.prog 26 #[x, .string nm, .slice a n c] w fun e w' => AnsB n e ∧ w' = w := by
  unfold maxLen at hm
  have HA := hideP A
  clear A
  by_cases g1 : n ≤ 1048576
  · have HG := hideP g1
    have t1 : decide ((1048576 : Int) < (n : Int)) = false := decide_eq_false (by omega)
    go_enter Try.func26, Try.ntmps26
    go_wp2
    all_goals try (go_ret; exact ⟨⟨_, rfl, fun _ => HG.out⟩, rfl⟩)
    go_loop [7, 8] (fun z i => ∃ (k : Nat) (y : Int), k ≤ n ∧ i = .int .i64 k ∧ z = .int .i64 y) (fun _ i => n - (intOf i).toNat)
    case atStart => exact ⟨0, _, Nat.zero_le _, rfl, rfl⟩
    case round =>
      obtain ⟨k, y, hk, rfl, rfl⟩ := hrel
      by_cases hlt : k < n
      · obtain ⟨b1, o1, ha1, hb1, hc1⟩ := HA.out k hlt
        subst ha1
        have d1 : w.cell? ⟨b1, o1 + k, none⟩ = some (.string (ls.getD k ByteArray.empty)) := hc1 k hlt
        generalize ls.getD k ByteArray.empty = lb at d1
        clear hc1
        have hkz : (k : Int) < (n : Int) := by omega
        go_wp2
        · go_ret; exact ⟨⟨_, rfl, fun _ => HG.out⟩, rfl⟩
        · go_ret; exact ⟨⟨_, rfl, fun _ => HG.out⟩, rfl⟩
        go_round
        case rel => exact ⟨k + 1, _, by omega, by go_num, rfl⟩
        case measure => simp [intOf]; omega
      · go_wp2
        go_ret; exact ⟨⟨_, rfl, fun _ => HG.out⟩, rfl⟩
  · have t1 : decide ((1048576 : Int) < (n : Int)) = true := decide_eq_true (by omega)
    go_enter Try.func26, Try.ntmps26
    go_wp2
    all_goals (go_ret; exact ⟨⟨_, rfl, fun h => by cases h⟩, rfl⟩)

set_option maxHeartbeats 1000000 in
theorem bytes32_any (x : Value) (nm on : ByteArray) (a : Option Addr) (n c : Nat) (ls : List ByteArray) (w : World) (hm : n ≤ maxLen) (A : ArgRow w a n (fun i => .string (ls.getD i ByteArray.empty))) :
    Calls Try.prog 32 #[x, .string nm, .string on, .slice a n c] w fun e w' => AnsB n e ∧ w' = w := by
  unfold maxLen at hm
  have HA := hideP A
  clear A
  by_cases g1 : n ≤ 1048576
  · have HG := hideP g1
    have t1 : decide ((1048576 : Int) < (n : Int)) = false := decide_eq_false (by omega)
    go_enter Try.func32, Try.ntmps32
    go_wp2
    all_goals try (go_ret; exact ⟨⟨_, rfl, fun _ => HG.out⟩, rfl⟩)
    go_loop [9, 10] (fun z i => ∃ (k : Nat) (y : Int), k ≤ n ∧ i = .int .i64 k ∧ z = .int .i64 y) (fun _ i => n - (intOf i).toNat)
    case atStart => exact ⟨0, _, Nat.zero_le _, rfl, rfl⟩
    case round =>
      obtain ⟨k, y, hk, rfl, rfl⟩ := hrel
      by_cases hlt : k < n
      · obtain ⟨b1, o1, ha1, hb1, hc1⟩ := HA.out k hlt
        subst ha1
        have d1 : w.cell? ⟨b1, o1 + k, none⟩ = some (.string (ls.getD k ByteArray.empty)) := hc1 k hlt
        generalize ls.getD k ByteArray.empty = lb at d1
        clear hc1
        have hkz : (k : Int) < (n : Int) := by omega
        go_wp2
        · go_ret; exact ⟨⟨_, rfl, fun _ => HG.out⟩, rfl⟩
        · go_ret; exact ⟨⟨_, rfl, fun _ => HG.out⟩, rfl⟩
        go_round
        case rel => exact ⟨k + 1, _, by omega, by go_num, rfl⟩
        case measure => simp [intOf]; omega
      · go_wp2
        go_ret; exact ⟨⟨_, rfl, fun _ => HG.out⟩, rfl⟩
  · have t1 : decide ((1048576 : Int) < (n : Int)) = true := decide_eq_true (by omega)
    go_enter Try.func32, Try.ntmps32
    go_wp2
    all_goals (go_ret; exact ⟨⟨_, rfl, fun h => by cases h⟩, rfl⟩)
end Go.Proofs.Qxb6613578a
