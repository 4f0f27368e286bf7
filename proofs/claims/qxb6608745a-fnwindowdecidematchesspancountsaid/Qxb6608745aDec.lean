import Derived.Test.Qxb6608745aNil
namespace Go.Proofs.Qxb6608745a
open Go.RowKit
set_option linter.unusedVariables false

section
variable (wb lb n L S : Nat) (c t s k now : Int) (o : Value) (w : World)

set_option maxHeartbeats 1000000 in
theorem decide_stay_admit (hn : In now) (hS : 1 ≤ S) (hSL : S ≤ L) (hL : L ≤ 9223372036854775807) (hw : Blk w wb (win c t s k o)) (hl : Blk w lb (lim n L S))
    (hj : slotI L S now ≤ c) (ht : t < n) (R : World → Prop)
    (hadm : ∀ m, Calls Try.prog 21 #[.pointer (some ⟨wb, 0, none⟩)] (w.drewN m) fun e w' => e = .returned (.tuple #[]) ∧ R w') :
    Calls Try.prog 17 #[.pointer (some ⟨wb, 0, none⟩), .pointer (some ⟨lb, 0, none⟩), .int .i64 now] w fun e w' => e = .returned (.tuple #[.bool true, .int .i64 0]) ∧ R w' := by
  have c0 := hw.cell 0 _ rfl
  have c1 := hw.cell 1 _ rfl
  have l0 := hl.cell 0 _ rfl
  have C := hideP (slotOf_any lb L S now hn hS hSL hL w (hl.cell 1 _ rfl) (hl.cell 2 _ rfl))
  have hjb : decide (c < slotI L S now) = false := decide_eq_false (by omega)
  have htb : decide (t < (n : Int)) = true := decide_eq_true ht
  generalize slotI L S now = j at *
  have HA := hideP hadm
  clear hw hl hn hadm hj
  go_enter Try.func17, Try.ntmps17
  go_wp2_with fail
  refine C.out.mono ?_
  rintro e w1 ⟨rfl, m, hm⟩
  subst hm
  go_wp2_with fail
  go_quiet (fail)
  go_wp2_with fail
  refine (HA.out _).mono ?_
  rintro e w1 ⟨rfl, hR⟩
  have HR := hideP hR
  clear hR
  go_wp2
  go_ret2
  exact ⟨rfl, HR.out⟩

set_option maxHeartbeats 1000000 in
theorem decide_stay_refuse (hn : In now) (hS : 1 ≤ S) (hSL : S ≤ L) (hL : L ≤ 9223372036854775807) (hw : Blk w wb (win c t s k o)) (hl : Blk w lb (lim n L S))
    (hj : slotI L S now ≤ c) (ht : (n : Int) ≤ t) (R : World → Prop) (W : Int)
    (hwait : ∀ m, Calls Try.prog 22 #[.pointer (some ⟨wb, 0, none⟩), .pointer (some ⟨lb, 0, none⟩), .int .i64 now] (w.drewN m) fun e w' => e = .returned (.int .i64 W) ∧ R w') :
    Calls Try.prog 17 #[.pointer (some ⟨wb, 0, none⟩), .pointer (some ⟨lb, 0, none⟩), .int .i64 now] w fun e w' => e = .returned (.tuple #[.bool false, .int .i64 W]) ∧ R w' := by
  have c0 := hw.cell 0 _ rfl
  have c1 := hw.cell 1 _ rfl
  have l0 := hl.cell 0 _ rfl
  have C := hideP (slotOf_any lb L S now hn hS hSL hL w (hl.cell 1 _ rfl) (hl.cell 2 _ rfl))
  have hjb : decide (c < slotI L S now) = false := decide_eq_false (by omega)
  have htb : decide (t < (n : Int)) = false := decide_eq_false (by omega)
  generalize slotI L S now = j at *
  have HA := hideP hwait
  clear hw hl hn hwait hj
  go_enter Try.func17, Try.ntmps17
  go_wp2_with fail
  refine C.out.mono ?_
  rintro e w1 ⟨rfl, m, hm⟩
  subst hm
  go_wp2_with fail
  go_quiet (fail)
  go_wp2_with fail
  refine (HA.out _).mono ?_
  rintro e w1 ⟨rfl, hR⟩
  have HR := hideP hR
  clear hR
  go_wp2
  go_ret2
  exact ⟨rfl, HR.out⟩

set_option maxHeartbeats 1000000 in
theorem decide_move_admit (hn : In now) (hS : 1 ≤ S) (hSL : S ≤ L) (hL : L ≤ 9223372036854775807) (hw : Blk w wb (win c t s k o)) (hl : Blk w lb (lim n L S))
    (hj : c < slotI L S now) (t' : Int) (ht : t' < n) (R1 R : World → Prop)
    (hlv : ∀ m, Calls Try.prog 20 #[.pointer (some ⟨wb, 0, none⟩), .pointer (some ⟨lb, 0, none⟩)] ((w.drewN m).setCell ⟨wb, 0, none⟩ (.int .i64 (slotI L S now))) fun e w' => e = .returned (.tuple #[]) ∧ R1 w')
    (hR1 : ∀ w1, R1 w1 → w1.cell? ⟨wb, 1, none⟩ = some (.int .i64 t') ∧ w1.cell? ⟨lb, 0, none⟩ = some (.int .i64 n))
    (hadm : ∀ w1 m, R1 w1 → Calls Try.prog 21 #[.pointer (some ⟨wb, 0, none⟩)] (w1.drewN m) fun e w' => e = .returned (.tuple #[]) ∧ R w') :
    Calls Try.prog 17 #[.pointer (some ⟨wb, 0, none⟩), .pointer (some ⟨lb, 0, none⟩), .int .i64 now] w fun e w' => e = .returned (.tuple #[.bool true, .int .i64 0]) ∧ R w' := by
  have c0 := hw.cell 0 _ rfl
  have f0 := hw.free 0 (by simp [win])
  have C := hideP (slotOf_any lb L S now hn hS hSL hL w (hl.cell 1 _ rfl) (hl.cell 2 _ rfl))
  have hjb : decide (c < slotI L S now) = true := decide_eq_true (by omega)
  have htb : decide (t' < (n : Int)) = true := decide_eq_true ht
  generalize slotI L S now = j at *
  have HA := hideP hadm
  have HL := hideP hlv
  have HR1 := hideP hR1
  clear hw hl hn hadm hlv hR1 hj
  go_enter Try.func17, Try.ntmps17
  go_wp2_with fail
  refine C.out.mono ?_
  rintro e w1 ⟨rfl, m, hm⟩
  subst hm
  go_wp2_with fail
  refine (HL.out _).mono ?_
  rintro e w1 ⟨rfl, hR⟩
  have HB := hideP hR
  obtain ⟨d1, d0⟩ := HR1.out _ hR
  clear hR c0 f0
  go_wp2_with fail
  go_quiet (fail)
  go_wp2_with fail
  refine (HA.out _ _ HB.out).mono ?_
  rintro e w1 ⟨rfl, hR⟩
  have HR := hideP hR
  clear hR
  go_wp2
  go_ret2
  exact ⟨rfl, HR.out⟩

set_option maxHeartbeats 1000000 in
theorem decide_move_refuse (hn : In now) (hS : 1 ≤ S) (hSL : S ≤ L) (hL : L ≤ 9223372036854775807) (hw : Blk w wb (win c t s k o)) (hl : Blk w lb (lim n L S))
    (hj : c < slotI L S now) (t' : Int) (ht : (n : Int) ≤ t') (R1 R : World → Prop) (W : Int)
    (hlv : ∀ m, Calls Try.prog 20 #[.pointer (some ⟨wb, 0, none⟩), .pointer (some ⟨lb, 0, none⟩)] ((w.drewN m).setCell ⟨wb, 0, none⟩ (.int .i64 (slotI L S now))) fun e w' => e = .returned (.tuple #[]) ∧ R1 w')
    (hR1 : ∀ w1, R1 w1 → w1.cell? ⟨wb, 1, none⟩ = some (.int .i64 t') ∧ w1.cell? ⟨lb, 0, none⟩ = some (.int .i64 n))
    (hwait : ∀ w1 m, R1 w1 → Calls Try.prog 22 #[.pointer (some ⟨wb, 0, none⟩), .pointer (some ⟨lb, 0, none⟩), .int .i64 now] (w1.drewN m) fun e w' => e = .returned (.int .i64 W) ∧ R w') :
    Calls Try.prog 17 #[.pointer (some ⟨wb, 0, none⟩), .pointer (some ⟨lb, 0, none⟩), .int .i64 now] w fun e w' => e = .returned (.tuple #[.bool false, .int .i64 W]) ∧ R w' := by
  have c0 := hw.cell 0 _ rfl
  have f0 := hw.free 0 (by simp [win])
  have C := hideP (slotOf_any lb L S now hn hS hSL hL w (hl.cell 1 _ rfl) (hl.cell 2 _ rfl))
  have hjb : decide (c < slotI L S now) = true := decide_eq_true (by omega)
  have htb : decide (t' < (n : Int)) = false := decide_eq_false (by omega)
  generalize slotI L S now = j at *
  have HA := hideP hwait
  have HL := hideP hlv
  have HR1 := hideP hR1
  clear hw hl hn hwait hlv hR1 hj
  go_enter Try.func17, Try.ntmps17
  go_wp2_with fail
  refine C.out.mono ?_
  rintro e w1 ⟨rfl, m, hm⟩
  subst hm
  go_wp2_with fail
  refine (HL.out _).mono ?_
  rintro e w1 ⟨rfl, hR⟩
  have HB := hideP hR
  obtain ⟨d1, d0⟩ := HR1.out _ hR
  clear hR c0 f0
  go_wp2_with fail
  go_quiet (fail)
  go_wp2_with fail
  refine (HA.out _ _ HB.out).mono ?_
  rintro e w1 ⟨rfl, hR⟩
  have HR := hideP hR
  clear hR
  go_wp2
  go_ret2
  exact ⟨rfl, HR.out⟩

/-- ZZwindowDecide is decide. -/
theorem zzDecide_any (V : Bool) (W : Int) (R : World → Prop)
    (h : Calls Try.prog 17 #[.pointer (some ⟨wb, 0, none⟩), .pointer (some ⟨lb, 0, none⟩), .int .i64 now] w fun e w' => e = .returned (.tuple #[.bool V, .int .i64 W]) ∧ R w') :
    Calls Try.prog 12 #[.pointer (some ⟨wb, 0, none⟩), .pointer (some ⟨lb, 0, none⟩), .int .i64 now] w fun e w' => e = .returned (.tuple #[.bool V, .int .i64 W]) ∧ R w' := by
  have H := hideP h
  clear h
  go_enter Try.func12, Try.ntmps12
  go_wp2_with fail
  refine H.out.mono ?_
  rintro e w1 ⟨rfl, hR⟩
  have HR := hideP hR
  clear hR
  go_wp2
  go_ret2
  exact ⟨rfl, HR.out⟩
end

theorem newLimit_any (n L S : Nat) (w : World) :
    Calls Try.prog 9 #[.int .i64 n, .int .i64 L, .int .i64 S] w fun e w' => e = .returned (.pointer (some ⟨w.heap.size, 0, none⟩)) ∧ w' = w.alloc (.cells #[.int .i64 n, .int .i64 L, .int .i64 S] 37) := by
  go_enter Try.func9, Try.ntmps9
  go_wp2
  go_ret
  exact ⟨rfl, rfl⟩

theorem newWindow_any (c : Int) (w : World) :
    Calls Try.prog 10 #[.int .i64 c] w fun e w' => e = .returned (.pointer (some ⟨w.heap.size, 0, none⟩)) ∧ w' = w.alloc (.cells #[.int .i64 c, .int .i64 0, .int .i64 0, .int .i64 0, .pointer none] 42) := by
  go_enter Try.func10, Try.ntmps10
  go_wp2
  go_ret
  exact ⟨rfl, rfl⟩
end Go.Proofs.Qxb6608745a
