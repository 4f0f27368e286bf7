import Derived.Test.Qxb6613578aPars
import Derived.Deep.QuietTactic
import Derived.BigQuiet
import Derived.LaidEqlPtr
namespace Go.Proofs.Qxb6613578a
open Go.RowKit
set_option linter.unusedVariables false

theorem eql57 (W : World) : Sem.run Try.prog (binOp .eql 57 (.slice none 0 0) (.slice none 0 0)) W = .ok (.bool true) W := by kernel_rfl

theorem neq_same {tp te : TypeId} {j : TypeInfo} (a : Addr) (hp : Try.prog.underlying tp = some (.pointer te)) (hte : Try.prog.info? te = some j) (W : World) :
    Sem.run Try.prog (binOp .neq tp (.pointer (some a)) (.pointer (some a))) W = .ok (.bool false) W := by
  have h : ∀ d : Nat, (Op.equalIn (d + 1) tp (.pointer (some a)) (.pointer (some a))).run Try.prog W = .ok true W := fun d => by
    simp [Op.equalIn, run_underlying hp, sizeOf, typeInfo, hte, run_sameAddr_same]
  simp only [binOp]
  simp [Op.equal, Op.maxDepth, h 9999]

theorem has {e : TypeId} (h : (Try.prog.info? e).isSome = true) : ∃ j, Try.prog.info? e = some j := Option.isSome_iff_exists.1 h

theorem neq73 (p : Nat) (W : World) : Sem.run Try.prog (binOp .neq 73 (.pointer (some ⟨p, 0, none⟩)) (.pointer (some ⟨p, 0, none⟩))) W = .ok (.bool false) W := by
  obtain ⟨j, hj⟩ := has (e := 85) (by kernel_rfl)
  exact neq_same _ Try.underlying73 hj W

theorem neq60 (p : Nat) (W : World) : Sem.run Try.prog (binOp .neq 60 (.pointer (some ⟨p, 0, none⟩)) (.pointer (some ⟨p, 0, none⟩))) W = .ok (.bool false) W := by
  obtain ⟨j, hj⟩ := has (e := 79) (by kernel_rfl)
  exact neq_same _ Try.underlying60 hj W

theorem same_none (b : Value) (a : Option Addr) (c : Nat) (w : World) : Calls Try.prog 30 #[.slice none 0 0, b, .slice a 0 c] w fun e w' => e = .returned (.bool true) ∧ w' = w := by
  have hE := eql57 w
  go_enter Try.func30, Try.ntmps30
  go_wp2
  go_ret
  exact ⟨rfl, rfl⟩

set_option maxHeartbeats 1000000 in
theorem same_some (g : Nat) (a : Option Addr) (n c : Nat) (ls : List ByteArray) (w : World) (hn : 0 < n) (hN : n ≤ 1048576) (A : ArgRow w a n (fun i => .string (ls.getD i ByteArray.empty))) (R : Pars w g n ls n) :
    Calls Try.prog 30 #[.slice (some ⟨g, 0, none⟩) n n, .slice (some ⟨g, 0, none⟩) n n, .slice a n c] w fun e w' => e = .returned (.bool true) ∧ ∃ m, w' = w.drewN m := by
  have HA := hideP A
  have HR := hideP R
  clear A R
  have t1 : decide ((n : Int) = 0) = false := by rw [decide_eq_false_iff_not]; omega
  have t2 : decide (n = 0) = false := by rw [decide_eq_false_iff_not]; omega
  go_enter Try.func30, Try.ntmps30
  go_wp2
  go_loopw [7] (fun s7 wr => ∃ k m : Nat, s7 = .int .i64 k ∧ k ≤ n ∧ wr = w.drewN m) (fun s7 _ => n - (intOf s7).toNat)
  case atStart => exact ⟨0, 0, rfl, Nat.zero_le _, rfl⟩
  case round =>
    obtain ⟨k, m, rfl, hk, hw⟩ := hrel
    by_cases hlt : k < n
    · obtain ⟨b0, o0, ha0, hb0, hc0⟩ := HA.out k hlt
      subst ha0
      obtain ⟨p, q, r1, r2, r3, r4, r5, r6, r7⟩ := HR.out.done k hlt
      have d0 : w.cell? ⟨b0, o0 + k, none⟩ = some (.string (ls.getD k ByteArray.empty)) := hc0 k hlt
      clear hc0 r2 r3 r4 r5
      generalize ls.getD k ByteArray.empty = nm at d0 r7
      have d1 : wr.cell? ⟨b0, o0 + k, none⟩ = some (.string nm) := by rw [hw]; exact d0
      have q1 : wr.cell? ⟨g, k, none⟩ = some (.pointer (some ⟨p, 0, none⟩)) := by rw [hw]; exact r1
      have q6 : wr.cell? ⟨p, 0, none⟩ = some (.pointer (some ⟨q, 0, none⟩)) := by rw [hw]; exact r6
      have q7 : wr.cell? ⟨q, 2, none⟩ = some (.string nm) := by rw [hw]; exact r7
      have HW := hideP hw
      have HC : Hid (∀ m, Calls Try.prog 39 #[.pointer (some ⟨p, 0, none⟩)] (wr.drewN m) fun e w' => e = .returned (.string nm) ∧ w' = wr.drewN m) := fun m => string_any p q nm (wr.drewN m) q6 q7
      clear hw d0 r1 r6 r7 q6 q7
      have hkz : decide ((k : Int) < (n : Int)) = true := decide_eq_true (by omega)
      have hkn : decide (k < n) = true := decide_eq_true hlt
      have hkk : (k : Int) < (n : Int) := by omega
      have hNE := neq73 p
      go_wp2_with fail
      go_quiet (first | (go_at_call 39; refine Calls.quiet_of_same (HC.out _)))
      go_wp2
      go_roundw
      case rel => exact ⟨k + 1, _, by go_num, by omega, by rw [HW.out, World.drewN_drewN]⟩
      case measure => simp [intOf]; omega
    · have ek : k = n := by omega
      subst ek
      have HW := hideP hw
      clear hw
      go_wp2
      go_ret
      exact ⟨rfl, m, HW.out⟩
end Go.Proofs.Qxb6613578a
