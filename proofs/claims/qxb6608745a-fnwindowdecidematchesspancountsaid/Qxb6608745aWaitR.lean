import Derived.Test.Qxb6608745aDrop
namespace Go.Proofs.Qxb6608745a
open Go.RowKit
set_option linter.unusedVariables false

/-- The oldest slot that holds requests. -/
def oldest (s : Int) : List (Int × Int) → Int
  | [] => s
  | e :: _ => e.1

set_option maxHeartbeats 2000000 in
theorem waitRing_any (wb lb kb n L S : Nat) (c t s k now : Int) (p : Value) (es : List (Int × Int)) (hn : In now) (hs : In (oldest s es)) (hS : 1 ≤ S) (hSL : S ≤ L) (hL : L ≤ 9223372036854775807)
    (hlt : slotI L S now < oldest s es + S) (hmax : oldest s es ≤ slotI L S 9223372036854775807) (w : World) (hw : Blk w wb (win c t s k p)) (hl : Blk w lb (lim n L S)) (hr : RingAt w wb kb p es) (hn0 : 1 ≤ n) (hn2 : n ≤ 9223372036854775807) :
    Calls Try.prog 22 #[.pointer (some ⟨wb, 0, none⟩), .pointer (some ⟨lb, 0, none⟩), .int .i64 now] w fun e w' => e = .returned (.int .i64 (waitV L S (oldest s es) now)) ∧ Keep (fun _ => True) w w' := by
  have hL1 : 1 ≤ L := by omega
  have hst := (galois_lt hL1 hS now (oldest s es + S)).1 hlt
  have hhi : startI L S (oldest s es + S) < 18446744073709551616 := by
    have := (galois hL1 hS _ _).1 hmax
    rw [startI_add hS]; omega
  have C := hideP (fun (W : World) (hl : Blk W lb (lim n L S)) => leftAt_any lb n L S (oldest s es) hs hS hSL hL (by have := hn.1; omega) hhi W hl)
  have c2 := hw.cell 2 _ rfl
  have c4 := hw.cell 4 _ rfl
  have l0 := hl.cell 0 _ rfl
  obtain ⟨res, hres⟩ : ∃ res, res = waitV L S (oldest s es) now := ⟨_, rfl⟩
  rw [← hres]
  have HR0 := hideP hres
  have HST := hideP hst
  have hnz : ((n : Int) == 0) = false := by rw [beq_eq_false_iff_ne]; omega
  have HN := hideP hn
  have HLI := hideP hl
  clear hw hl hlt hmax hst hhi hres hn hs hn0 hn2
  rcases hr with ⟨rfl, rfl⟩ | ⟨rb, bb, m0, head, rfl, hR⟩
  · have HR : Hid (res = waitV L S s now) := HR0.out
    unfold waitV at HR
    simp only [oldest] at C HST
    go_enter Try.func22, Try.ntmps22
    go_wp2_with fail
    refine (C.out w HLI.out).mono ?_
    rintro e w9 ⟨⟨x, b, rfl, hx1, hx2⟩, m, hm⟩
    have HM : Hid (Keep (fun _ => True) w w9) := by subst hm; exact (Keep.refl _ w).drewN m
    clear hm
    by_cases hb : s + S ≤ 9223372036854775807 ∧ startI L S (s + S) ≤ 9223372036854775807
    · obtain ⟨rfl, hx⟩ := hx1 hb.1 hb.2
      rw [← hx] at HST HR
      have HX := hideP (hb.1)
      have HXM : Hid (x ≤ 9223372036854775807) := by show _ ≤ _; rw [hx]; exact hb.2
      clear hx1 hx2 hb hx
      have HD : Hid (IntKind.u64.wrap (IntKind.u64.wrap x - IntKind.u64.wrap now) = x - now) := by
        have := HST.out; have := HXM.out; have := HN.out.1; have := HN.out.2
        show _ = _
        simp only [IntKind.wrap_u64]; omega
      by_cases hbig : x - now ≤ 9223372036854775807
      · have hb2 : decide ((9223372036854775807 : Int) < IntKind.u64.wrap (IntKind.u64.wrap x - IntKind.u64.wrap now)) = false := decide_eq_false (by rw [HD.out]; omega)
        have HF : Hid (wrap64 (IntKind.u64.wrap (IntKind.u64.wrap x - IntKind.u64.wrap now)) = res) := by
          show _ = _
          have h := HR.out
          rw [if_pos ⟨HX.out, HXM.out, hbig⟩] at h
          have := HST.out
          rw [HD.out, IntWalk.wrap64_in _ ⟨by omega, hbig⟩]; exact h.symm
        clear hbig
        go_wp2
        go_ret
        exact ⟨congrArg (fun x => Ending.returned (Value.int .i64 x)) HF.out, HM.out⟩
      · have hb2 : decide ((9223372036854775807 : Int) < IntKind.u64.wrap (IntKind.u64.wrap x - IntKind.u64.wrap now)) = true := decide_eq_true (by rw [HD.out]; omega)
        have HF : Hid ((9223372036854775807 : Int) = res) := by
          have h := HR.out
          rw [if_neg (fun h => hbig h.2.2)] at h
          exact h.symm
        clear hbig
        go_wp2
        go_ret
        exact ⟨congrArg (fun x => Ending.returned (Value.int .i64 x)) HF.out, HM.out⟩
    · obtain rfl := hx2 hb
      have HF : Hid ((9223372036854775807 : Int) = res) := by
        have h := HR.out
        rw [if_neg (fun h => hb ⟨h.1, h.2.1⟩)] at h
        exact h.symm
      clear hx1 hx2 hb
      go_wp2
      go_ret
      exact ⟨congrArg (fun x => Ending.returned (Value.int .i64 x)) HF.out, HM.out⟩
  · have r2 := hR.ring.cell 2 _ rfl
    rcases es with _ | ⟨⟨x0, y0⟩, r⟩
    · have HR : Hid (res = waitV L S s now) := HR0.out
      unfold waitV at HR
      simp only [oldest] at C HST
      have r2' : w.cell? ⟨rb, 2, none⟩ = some (.int .i64 0) := r2
      clear r2 hR
      go_enter Try.func22, Try.ntmps22
      go_wp2_with fail
      refine (C.out w HLI.out).mono ?_
      rintro e w9 ⟨⟨x, b, rfl, hx1, hx2⟩, m, hm⟩
      have HM : Hid (Keep (fun _ => True) w w9) := by subst hm; exact (Keep.refl _ w).drewN m
      clear hm
      by_cases hb : s + S ≤ 9223372036854775807 ∧ startI L S (s + S) ≤ 9223372036854775807
      · obtain ⟨rfl, hx⟩ := hx1 hb.1 hb.2
        rw [← hx] at HST HR
        have HX := hideP (hb.1)
        have HXM : Hid (x ≤ 9223372036854775807) := by show _ ≤ _; rw [hx]; exact hb.2
        clear hx1 hx2 hb hx
        have HD : Hid (IntKind.u64.wrap (IntKind.u64.wrap x - IntKind.u64.wrap now) = x - now) := by
          have := HST.out; have := HXM.out; have := HN.out.1; have := HN.out.2
          show _ = _
          simp only [IntKind.wrap_u64]; omega
        by_cases hbig : x - now ≤ 9223372036854775807
        · have hb2 : decide ((9223372036854775807 : Int) < IntKind.u64.wrap (IntKind.u64.wrap x - IntKind.u64.wrap now)) = false := decide_eq_false (by rw [HD.out]; omega)
          have HF : Hid (wrap64 (IntKind.u64.wrap (IntKind.u64.wrap x - IntKind.u64.wrap now)) = res) := by
            show _ = _
            have h := HR.out
            rw [if_pos ⟨HX.out, HXM.out, hbig⟩] at h
            have := HST.out
            rw [HD.out, IntWalk.wrap64_in _ ⟨by omega, hbig⟩]; exact h.symm
          clear hbig
          go_wp2
          go_ret
          exact ⟨congrArg (fun x => Ending.returned (Value.int .i64 x)) HF.out, HM.out⟩
        · have hb2 : decide ((9223372036854775807 : Int) < IntKind.u64.wrap (IntKind.u64.wrap x - IntKind.u64.wrap now)) = true := decide_eq_true (by rw [HD.out]; omega)
          have HF : Hid ((9223372036854775807 : Int) = res) := by
            have h := HR.out
            rw [if_neg (fun h => hbig h.2.2)] at h
            exact h.symm
          clear hbig
          go_wp2
          go_ret
          exact ⟨congrArg (fun x => Ending.returned (Value.int .i64 x)) HF.out, HM.out⟩
      · obtain rfl := hx2 hb
        have HF : Hid ((9223372036854775807 : Int) = res) := by
          have h := HR.out
          rw [if_neg (fun h => hb ⟨h.1, h.2.1⟩)] at h
          exact h.symm
        clear hx1 hx2 hb
        go_wp2
        go_ret
        exact ⟨congrArg (fun x => Ending.returned (Value.int .i64 x)) HF.out, HM.out⟩
    · have HR : Hid (res = waitV L S x0 now) := HR0.out
      unfold waitV at HR
      simp only [oldest] at C HST
      have r2' : w.cell? ⟨rb, 2, none⟩ = some (.int .i64 ((r.length : Int) + 1)) := r2
      have FR := hideP (front_any rb bb m0 head (x0, y0) r hR.bd hR.hd w hR.ring hR.buf)
      have hpos : decide ((0 : Int) < (r.length : Int) + 1) = true := decide_eq_true (by omega)
      have F0 := fld0 x0 y0
      clear r2 hR
      go_enter Try.func22, Try.ntmps22
      go_wp2_with fail
      refine FR.out.mono ?_
      rintro e2 w2 ⟨rfl, hbel⟩
      have KF : Hid (Keep (fun _ => True) w w2) := Keep.of_below hbel
      clear hbel
      go_wp2_with fail
      refine (C.out w2 (KF.out.blk HLI.out trivial)).mono ?_
      rintro e w9 ⟨⟨x, b, rfl, hx1, hx2⟩, m, hm⟩
      have HM : Hid (Keep (fun _ => True) w w9) := by subst hm; exact KF.out.drewN m
      clear hm
      by_cases hb : x0 + S ≤ 9223372036854775807 ∧ startI L S (x0 + S) ≤ 9223372036854775807
      · obtain ⟨rfl, hx⟩ := hx1 hb.1 hb.2
        rw [← hx] at HST HR
        have HX := hideP (hb.1)
        have HXM : Hid (x ≤ 9223372036854775807) := by show _ ≤ _; rw [hx]; exact hb.2
        clear hx1 hx2 hb hx
        have HD : Hid (IntKind.u64.wrap (IntKind.u64.wrap x - IntKind.u64.wrap now) = x - now) := by
          have := HST.out; have := HXM.out; have := HN.out.1; have := HN.out.2
          show _ = _
          simp only [IntKind.wrap_u64]; omega
        by_cases hbig : x - now ≤ 9223372036854775807
        · have hb2 : decide ((9223372036854775807 : Int) < IntKind.u64.wrap (IntKind.u64.wrap x - IntKind.u64.wrap now)) = false := decide_eq_false (by rw [HD.out]; omega)
          have HF : Hid (wrap64 (IntKind.u64.wrap (IntKind.u64.wrap x - IntKind.u64.wrap now)) = res) := by
            show _ = _
            have h := HR.out
            rw [if_pos ⟨HX.out, HXM.out, hbig⟩] at h
            have := HST.out
            rw [HD.out, IntWalk.wrap64_in _ ⟨by omega, hbig⟩]; exact h.symm
          clear hbig
          go_wp2
          go_ret
          exact ⟨congrArg (fun x => Ending.returned (Value.int .i64 x)) HF.out, HM.out⟩
        · have hb2 : decide ((9223372036854775807 : Int) < IntKind.u64.wrap (IntKind.u64.wrap x - IntKind.u64.wrap now)) = true := decide_eq_true (by rw [HD.out]; omega)
          have HF : Hid ((9223372036854775807 : Int) = res) := by
            have h := HR.out
            rw [if_neg (fun h => hbig h.2.2)] at h
            exact h.symm
          clear hbig
          go_wp2
          go_ret
          exact ⟨congrArg (fun x => Ending.returned (Value.int .i64 x)) HF.out, HM.out⟩
      · obtain rfl := hx2 hb
        have HF : Hid ((9223372036854775807 : Int) = res) := by
          have h := HR.out
          rw [if_neg (fun h => hb ⟨h.1, h.2.1⟩)] at h
          exact h.symm
        clear hx1 hx2 hb
        go_wp2
        go_ret
        exact ⟨congrArg (fun x => Ending.returned (Value.int .i64 x)) HF.out, HM.out⟩
end Go.Proofs.Qxb6608745a
