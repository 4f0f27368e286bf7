import Derived.Test.Qxb6608745aWin
import Derived.Deep.LoopGhost
namespace Go.Proofs.Qxb6608745a
open Go.RowKit
set_option linter.unusedVariables false


theorem below_set {b : Nat} {w w' : World} (h : Below b w w') (j : Nat) (x : Value) : Below b w (w'.setCell ⟨b, j, none⟩ x) := h.setCell (p := ⟨b, j, none⟩) (Nat.le_refl b) x

/-- When slot o has left the span, as leftAt says it. -/
def LeftIs (L S : Nat) (o : Int) (e : Ending) : Prop := ∃ (x : Int) (b : Bool), e = .returned (.tuple #[.int .i64 x, .bool b]) ∧
  (o + S ≤ 9223372036854775807 → startI L S (o + S) ≤ 9223372036854775807 → b = true ∧ x = startI L S (o + S)) ∧
  (¬ (o + S ≤ 9223372036854775807 ∧ startI L S (o + S) ≤ 9223372036854775807) → b = false)

set_option maxHeartbeats 1000000 in
theorem leftAt_any (lb n L S : Nat) (o : Int) (ho : In o) (hS : 1 ≤ S) (hSL : S ≤ L) (hL : L ≤ 9223372036854775807)
    (hlo : -9223372036854775808 ≤ startI L S (o + S)) (hhi : startI L S (o + S) < 18446744073709551616) (w : World) (hl : Blk w lb (lim n L S)) :
    Calls Try.prog 31 #[.pointer (some ⟨lb, 0, none⟩), .int .i64 o] w fun e w' => LeftIs L S o e ∧ ∃ n, w' = w.drewN n := by
  have l1 := hl.cell 1 _ rfl
  have l2 := hl.cell 2 _ rfl
  by_cases hA : o + S ≤ 9223372036854775807
  · have C := hideP (slotStart_any lb L S (o + S) ⟨by have := ho.1; omega, hA⟩ hS (by omega) hL (by omega) hhi w l1 l2)
    have hAb : decide ((9223372036854775807 : Int) - (S : Int) < o) = false := decide_eq_false (by omega)
    have HA := hideP hA
    have hw1 : -9223372036854775808 ≤ o + (S : Int) := by have := ho.1; omega
    have HLO := hideP hlo
    clear hl hL hSL hlo hhi
    obtain ⟨ho1, ho2⟩ := ho
    go_enter Try.func31, Try.ntmps31
    go_wp2_with fail
    refine C.out.mono ?_
    rintro e w1 ⟨⟨x, b, rfl, hx1, hx2⟩, m, hm⟩
    have HM := hideP hm
    have HX1 := hideP hx1
    have HX2 := hideP hx2
    clear hm hx1 hx2
    go_wp2
    go_ret2
    refine ⟨⟨x, b, rfl, fun h1 h2 => ?_, fun h => HX2.out ?_⟩, m, HM.out⟩
    · have := HX1.out h2
      exact ⟨this.1, this.2 HLO.out⟩
    · have := HA.out
      omega
  · have hAb : decide ((9223372036854775807 : Int) - (S : Int) < o) = true := decide_eq_true (by omega)
    have HA := hideP hA
    clear hl hlo hhi ho hA
    go_enter Try.func31, Try.ntmps31
    go_wp2
    go_ret2
    exact ⟨⟨0, false, rfl, fun h => absurd h (by have := HA.out; omega), fun _ => rfl⟩, 0, rfl⟩

set_option maxHeartbeats 1000000 in
theorem waitNil_any (wb lb n L S : Nat) (c t s k now : Int) (hn : In now) (hs : In s) (hS : 1 ≤ S) (hSL : S ≤ L) (hL : L ≤ 9223372036854775807)
    (hlt : slotI L S now < s + S) (hmax : s ≤ slotI L S 9223372036854775807) (w : World) (hw : Blk w wb (win c t s k (.pointer none))) (hl : Blk w lb (lim n L S)) (hn0 : 1 ≤ n) (hn2 : n ≤ 9223372036854775807) :
    Calls Try.prog 22 #[.pointer (some ⟨wb, 0, none⟩), .pointer (some ⟨lb, 0, none⟩), .int .i64 now] w fun e w' => e = .returned (.int .i64 (waitV L S s now)) ∧ ∃ n, w' = w.drewN n := by
  have hL1 : 1 ≤ L := by omega
  have hst := (galois_lt hL1 hS now (s + S)).1 hlt
  have hhi : startI L S (s + S) < 18446744073709551616 := by
    have := (galois hL1 hS _ _).1 hmax
    rw [startI_add hS]; omega
  have C := hideP (leftAt_any lb n L S s hs hS hSL hL (by have := hn.1; omega) hhi w hl)
  have c2 := hw.cell 2 _ rfl
  have c4 := hw.cell 4 _ rfl
  have l0 := hl.cell 0 _ rfl
  obtain ⟨res, hres⟩ : ∃ res, res = waitV L S s now := ⟨_, rfl⟩
  rw [← hres]
  unfold waitV at hres
  have HR := hideP hres
  have HST := hideP hst
  have hnz : ((n : Int) == 0) = false := by rw [beq_eq_false_iff_ne]; omega
  have HN := hideP hn
  clear hw hl hlt hmax hst hhi hres hn hs hn0 hn2
  go_enter Try.func22, Try.ntmps22
  go_wp2_with fail
  refine C.out.mono ?_
  rintro e w1 ⟨⟨x, b, rfl, hx1, hx2⟩, m, hm⟩
  have HM := hideP hm
  clear hm
  by_cases hb : s + S ≤ 9223372036854775807 ∧ startI L S (s + S) ≤ 9223372036854775807
  · obtain ⟨rfl, hx⟩ := hx1 hb.1 hb.2
    rw [← hx] at HST HR
    have HX := hideP (hb.1)
    have HXM : Hid (x ≤ 9223372036854775807) := by show _ ≤ _; rw [hx]; exact hb.2
    clear hx1 hx2 hb hx
    have HD : Hid (IntKind.u64.wrap (IntKind.u64.wrap x - IntKind.u64.wrap now) = x - now) := by
      have := HST.out; have := HXM.out; have := HN.out.1; have := HN.out.2
      show _ = _
      simp only [IntKind.wrap_u64]; omega
    by_cases hbig : x - now ≤ 9223372036854775807
    · have hb2 : decide ((9223372036854775807 : Int) < IntKind.u64.wrap (IntKind.u64.wrap x - IntKind.u64.wrap now)) = false := decide_eq_false (by rw [HD.out]; omega)
      have HF : Hid (wrap64 (IntKind.u64.wrap (IntKind.u64.wrap x - IntKind.u64.wrap now)) = res) := by
        show _ = _
        have h := HR.out
        rw [if_pos ⟨HX.out, HXM.out, hbig⟩] at h
        have := HST.out
        rw [HD.out, IntWalk.wrap64_in _ ⟨by omega, hbig⟩]; exact h.symm
      clear hbig
      go_wp2
      go_ret
      exact ⟨congrArg (fun x => Ending.returned (Value.int .i64 x)) HF.out, m, HM.out⟩
    · have hb2 : decide ((9223372036854775807 : Int) < IntKind.u64.wrap (IntKind.u64.wrap x - IntKind.u64.wrap now)) = true := decide_eq_true (by rw [HD.out]; omega)
      have HF : Hid ((9223372036854775807 : Int) = res) := by
        have h := HR.out
        rw [if_neg (fun h => hbig h.2.2)] at h
        exact h.symm
      clear hbig
      go_wp2
      go_ret
      exact ⟨congrArg (fun x => Ending.returned (Value.int .i64 x)) HF.out, m, HM.out⟩
  · obtain rfl := hx2 hb
    have HF : Hid ((9223372036854775807 : Int) = res) := by
      have h := HR.out
      rw [if_neg (fun h => hb ⟨h.1, h.2.1⟩)] at h
      exact h.symm
    clear hx1 hx2 hb
    go_wp2
    go_ret
    exact ⟨congrArg (fun x => Ending.returned (Value.int .i64 x)) HF.out, m, HM.out⟩

/-- A limit of 0: Never. -/
theorem waitZero_any (wb lb L S : Nat) (now : Int) (w : World) (hl : Blk w lb (lim 0 L S)) :
    Calls Try.prog 22 #[.pointer (some ⟨wb, 0, none⟩), .pointer (some ⟨lb, 0, none⟩), .int .i64 now] w fun e w' => e = .returned (.int .i64 9223372036854775807) ∧ ∃ n, w' = w.drewN n := by
  have l0 : w.cell? ⟨lb, 0, none⟩ = some (.int .i64 0) := hl.cell 0 _ rfl
  clear hl
  go_enter Try.func22, Try.ntmps22
  go_wp2
  go_ret
  exact ⟨rfl, 0, rfl⟩

set_option maxHeartbeats 1000000 in
theorem leaveNone_any (wb lb : Nat) (c t s : Int) (o : Value) (w : World) (hw : Blk w wb (win c t s 0 o)) :
    Calls Try.prog 20 #[.pointer (some ⟨wb, 0, none⟩), .pointer (some ⟨lb, 0, none⟩)] w fun e w' => e = .returned (.tuple #[]) ∧ w' = w := by
  have c3 := hw.cell 3 _ rfl
  clear hw
  go_enter Try.func20, Try.ntmps20
  go_wp2
  first | (refine bodyPost_ret (results_none rfl _ _ _) rfl ?_) | (refine bodyPost_end (results_none rfl _ _ _) rfl ?_)
  exact ⟨rfl, rfl⟩

set_option maxHeartbeats 1000000 in
theorem leaveKeep_any (wb lb n L S : Nat) (c t s k : Int) (hc : In c) (hs : In s) (hle : s ≤ c) (hlt : c < s + S) (hk : 1 ≤ k) (hS : 1 ≤ S) (hS2 : S ≤ 9223372036854775807) (w : World)
    (hw : Blk w wb (win c t s k (.pointer none))) (hl : Blk w lb (lim n L S)) :
    Calls Try.prog 20 #[.pointer (some ⟨wb, 0, none⟩), .pointer (some ⟨lb, 0, none⟩)] w fun e w' => e = .returned (.tuple #[]) ∧ ∃ n, w' = w.drewN n := by
  have c2 := hw.cell 2 _ rfl
  have c3 := hw.cell 3 _ rfl
  have c4 := hw.cell 4 _ rfl
  have hkz : (k == 0) = false := by rw [beq_eq_false_iff_ne]; omega
  have C := hideP (gone_any wb lb n L S c t s k s (.pointer none) hc hs hle hS hS2 w hw hl)
  have HD : Hid (decide ((S : Int) ≤ c - s) = false) := decide_eq_false (by omega)
  clear hw hl hc hs hle hlt hk hS2
  go_enter Try.func20, Try.ntmps20
  go_wp2_with fail
  refine C.out.mono ?_
  rintro e w1 ⟨rfl, m, hm⟩
  subst hm
  rw [HD.out]
  go_wp2
  go_loopw [] (fun wr => wr = w.drewN m) (fun _ => 0)
  case atStart => rfl
  case round =>
    subst hrel
    go_wp2
    first | (refine bodyPost_ret (results_none rfl _ _ _) rfl ?_) | (refine bodyPost_end (results_none rfl _ _ _) rfl ?_)
    exact ⟨rfl, m, rfl⟩

set_option maxHeartbeats 1000000 in
theorem leaveGone_any (wb lb n L S : Nat) (c t s k : Int) (hc : In c) (hs : In s) (hle : s + S ≤ c) (hk : 1 ≤ k) (hS : 1 ≤ S) (hS2 : S ≤ 9223372036854775807) (w : World)
    (hw : Blk w wb (win c t s k (.pointer none))) (hl : Blk w lb (lim n L S)) :
    Calls Try.prog 20 #[.pointer (some ⟨wb, 0, none⟩), .pointer (some ⟨lb, 0, none⟩)] w fun e w' => e = .returned (.tuple #[]) ∧ Blk w' wb (win c 0 0 0 (.pointer none)) ∧ Below wb w w' := by
  have c2 := hw.cell 2 _ rfl
  have c3 := hw.cell 3 _ rfl
  have c4 := hw.cell 4 _ rfl
  have c1 := hw.cell 1 _ rfl
  have f1 := hw.free 1 (by simp [win])
  have f2 := hw.free 2 (by simp [win])
  have f3 := hw.free 3 (by simp [win])
  have hkz : (k == 0) = false := by rw [beq_eq_false_iff_ne]; omega
  have C := hideP (gone_any wb lb n L S c t s k s (.pointer none) hc hs (by omega) hS hS2 w hw hl)
  have HD : Hid (decide ((S : Int) ≤ c - s) = true) := decide_eq_true (by omega)
  have HW := hideP hw
  clear hw hl hc hs hle hk hS2
  go_enter Try.func20, Try.ntmps20
  go_wp2_with fail
  refine C.out.mono ?_
  rintro e w1 ⟨rfl, m, hm⟩
  subst hm
  rw [HD.out]
  go_wp2
  first | (refine bodyPost_ret (results_none rfl _ _ _) rfl ?_) | (refine bodyPost_end (results_none rfl _ _ _) rfl ?_)
  refine ⟨rfl, ?_, ?_⟩
  · exact (((HW.out.drew m).set 1 (by simp [win]) _).set 2 (by simp [win]) _).set 3 (by simp [win]) _
  · exact below_set (below_set (below_set (below_drewN (Below.refl _ _) m) _ _) _ _) _ _

set_option maxHeartbeats 1000000 in
theorem admitFirst_any (wb : Nat) (c t s : Int) (o : Value) (ht : 0 ≤ t) (ht2 : t < 9223372036854775807) (w : World) (hw : Blk w wb (win c t s 0 o)) :
    Calls Try.prog 21 #[.pointer (some ⟨wb, 0, none⟩)] w fun e w' => e = .returned (.tuple #[]) ∧ Blk w' wb (win c (t + 1) c 1 o) ∧ Below wb w w' := by
  have c0 := hw.cell 0 _ rfl
  have c1 := hw.cell 1 _ rfl
  have c2 := hw.cell 2 _ rfl
  have c3 := hw.cell 3 _ rfl
  have f1 := hw.free 1 (by simp [win])
  have f2 := hw.free 2 (by simp [win])
  have f3 := hw.free 3 (by simp [win])
  have HW := hideP hw
  clear hw
  go_enter Try.func21, Try.ntmps21
  go_wp2
  first | (refine bodyPost_ret (results_none rfl _ _ _) rfl ?_) | (refine bodyPost_end (results_none rfl _ _ _) rfl ?_)
  refine ⟨rfl, ?_, ?_⟩
  · exact ((HW.out.set 2 (by simp [win]) _).set 3 (by simp [win]) _).set 1 (by simp [win]) _
  · exact below_set (below_set (below_set (Below.refl _ _) _ _) _ _) _ _

set_option maxHeartbeats 1000000 in
theorem admitMore_any (wb : Nat) (c t k : Int) (o : Value) (ht : 0 ≤ t) (ht2 : t < 9223372036854775807) (hk : 1 ≤ k) (hk2 : k < 9223372036854775807) (w : World) (hw : Blk w wb (win c t c k o)) :
    Calls Try.prog 21 #[.pointer (some ⟨wb, 0, none⟩)] w fun e w' => e = .returned (.tuple #[]) ∧ Blk w' wb (win c (t + 1) c (k + 1) o) ∧ Below wb w w' := by
  have c0 := hw.cell 0 _ rfl
  have c1 := hw.cell 1 _ rfl
  have c2 := hw.cell 2 _ rfl
  have c3 := hw.cell 3 _ rfl
  have f1 := hw.free 1 (by simp [win])
  have f2 := hw.free 2 (by simp [win])
  have f3 := hw.free 3 (by simp [win])
  have hkz : (k == 0) = false := by rw [beq_eq_false_iff_ne]; omega
  have HW := hideP hw
  clear hw
  go_enter Try.func21, Try.ntmps21
  go_wp2
  go_quiet (fail)
  go_wp2
  first | (refine bodyPost_ret (results_none rfl _ _ _) rfl ?_) | (refine bodyPost_end (results_none rfl _ _ _) rfl ?_)
  refine ⟨rfl, ?_, ?_⟩
  · exact ((HW.out.drew _).set 3 (by simp [win]) _).set 1 (by simp [win]) _
  · exact below_set (below_set (below_drewN (Below.refl _ _) _) _ _) _ _
end Go.Proofs.Qxb6608745a
