import Derived.Test.Qxb6608745aOlder
import Derived.Deep.RegionWith
namespace Go.Proofs.Qxb6608745a
open Go.RowKit
set_option linter.unusedVariables false

def tot : List (Int × Int) → Int
  | [] => 0
  | e :: r => e.2 + tot r

/-- The older slots: in order, ahead of s, each with a request. -/
def Good (s : Int) : List (Int × Int) → Prop
  | [] => True
  | e :: r => In e.1 ∧ 1 ≤ e.2 ∧ e.1 < s ∧ Good s r

theorem Good.nonneg {s : Int} : ∀ {es : List (Int × Int)}, Good s es → 0 ≤ tot es
  | [], _ => Int.le_refl _
  | e :: r, h => by have := h.2.1; have := Good.nonneg h.2.2.2; simp only [tot]; omega

theorem fld0 (x y : Int) (W : World) : Sem.run Try.prog (Instr.field 39 (.agg #[.int .i64 x, .int .i64 y]) 0) W = .ok (.int .i64 x) W := by rfl
theorem fld1 (x y : Int) (W : World) : Sem.run Try.prog (Instr.field 39 (.agg #[.int .i64 x, .int .i64 y]) 1) W = .ok (.int .i64 y) W := by rfl

/-- Has slot e.1 left the span that ends at c? -/
def goneB (S : Nat) (c : Int) (e : Int × Int) : Bool := decide ((S : Int) ≤ c - e.1)

set_option maxRecDepth 100000 in
set_option maxHeartbeats 2000000 in
theorem leaveDrop_any (wb lb kb n L S : Nat) (c s k : Int) (p : Value) (es : List (Int × Int)) (hc : In c) (hs : In s) (hle : s ≤ c) (hlt : c < s + S) (hk : 1 ≤ k) (hS : 1 ≤ S) (hS2 : S ≤ 9223372036854775807) (w : World)
    (hw : Blk w wb (win c (tot es + k) s k p)) (hl : Blk w lb (lim n L S)) (hr : RingAt w wb kb p es) (hne : wb ≠ kb) (hlb : lb < wb) (hg : Good s es) (hmx : tot es + k ≤ 1000000) :
    Calls Try.prog 20 #[.pointer (some ⟨wb, 0, none⟩), .pointer (some ⟨lb, 0, none⟩)] w fun e w' => e = .returned (.tuple #[]) ∧
      Blk w' wb (win c (tot (es.dropWhile (goneB S c)) + k) s k p) ∧ RingAt w' wb kb p (es.dropWhile (goneB S c)) ∧ Keep (KK wb kb) w w' := by
  have c2 := hw.cell 2 _ rfl
  have c3 := hw.cell 3 _ rfl
  have hkz : (k == 0) = false := by rw [beq_eq_false_iff_ne]; omega
  have C := hideP (gone_any wb lb n L S c _ s k s p hc hs hle hS hS2 w hw hl)
  have HD : Hid (decide ((S : Int) ≤ c - s) = false) := decide_eq_false (by omega)
  have HC := hideP hc
  have HLE := hideP hle
  have HS2 := hideP hS2
  have HW := hideP hw
  have HL := hideP hl
  have HR := hideP hr
  have HG := hideP hg
  have HMX := hideP hmx
  have HNE := hideP hne
  have HLB := hideP hlb
  have HK1 := hideP hk
  generalize hes : es.dropWhile (goneB S c) = ed
  have HES := hideP hes
  clear hw hl hc hs hle hlt hk hS2 hr hg hmx hes hne hlb
  go_enter Try.func20, Try.ntmps20
  go_wp2_with fail
  refine C.out.mono ?_
  rintro e w1 ⟨rfl, m, hm⟩
  subst hm
  rw [HD.out]
  go_wp2
  go_loopg [] es.length (fun g wr => ∃ es1 : List (Int × Int), es1.length ≤ g ∧ Hid (es1.dropWhile (goneB S c) = ed) ∧ Hid (Good s es1) ∧ Hid (tot es1 + k ≤ 1000000) ∧ Hid (Blk wr wb (win c (tot es1 + k) s k p)) ∧ Hid (RingAt wr wb kb p es1) ∧ Hid (Keep (KK wb kb) w wr))
  case atStart => exact ⟨es, Nat.le_refl _, HES, HG, HMX, HW.out.drew m, HR.out.keep ((Keep.refl (fun _ => True) w).drewN m) (fun _ _ _ => trivial), (Keep.refl _ w).drewN m⟩
  case round =>
    obtain ⟨es1, hg1, HE1, HG1, HM1, HW1, HR1, HK1'⟩ := hrel
    have c4 := HW1.out.cell 4 _ rfl
    rcases HR1.out with ⟨hp, he⟩ | ⟨rb, bb, m0, head, hp, hR⟩
    · subst hp he
      have HED : Hid ([] = ed) := HE1.out
      go_wp2
      first | (refine bodyPost_ret (results_none rfl _ _ _) rfl ?_) | (refine bodyPost_end (results_none rfl _ _ _) rfl ?_)
      rw [← HED.out]
      exact ⟨rfl, HW1.out, HR1.out, HK1'.out⟩
    · subst hp
      have HRI := hideP hR
      have r2 := hR.ring.cell 2 _ rfl
      rcases es1 with _ | ⟨⟨x, y⟩, r⟩
      · have HED : Hid ([] = ed) := HE1.out
        have r2' : wr.cell? ⟨rb, 2, none⟩ = some (.int .i64 0) := r2
        clear r2 hR
        go_wp2
        first | (refine bodyPost_ret (results_none rfl _ _ _) rfl ?_) | (refine bodyPost_end (results_none rfl _ _ _) rfl ?_)
        rw [← HED.out]
        exact ⟨rfl, HW1.out, HR1.out, HK1'.out⟩
      · have F0 := fld0 x y
        have F1 := fld1 x y
        have r2' : wr.cell? ⟨rb, 2, none⟩ = some (.int .i64 ((r.length : Int) + 1)) := r2
        have FR := hideP (front_any rb bb m0 head (x, y) r hR.bd hR.hd wr hR.ring hR.buf)
        have hpos : decide ((0 : Int) < (r.length : Int) + 1) = true := decide_eq_true (by omega)
        clear r2 hR
        go_wp2_with fail
        refine FR.out.mono ?_
        rintro e2 w2 ⟨rfl, hbel⟩
        have KF : Hid (Keep (fun _ => True) wr w2) := Keep.of_below hbel
        clear hbel
        have GN := hideP (gone_any wb lb n L S c _ s k x (.pointer (some ⟨rb, 0, none⟩)) HC.out HG1.out.1 (by have := HG1.out.2.2.1; have := HLE.out; omega) hS HS2.out w2 (KF.out.blk HW1.out trivial) (KF.out.blk (HK1'.out.blk HL.out (.inl HLB.out)) trivial))
        go_wp2_with fail
        refine GN.out.mono ?_
        rintro e2 w3 ⟨rfl, m2, hm2⟩
        have KF3 : Hid (Keep (fun _ => True) wr w3) := by subst hm2; exact KF.out.drewN m2
        clear hm2 KF GN FR
        by_cases hgn : goneB S c (x, y) = true
        · have hgn' : decide ((S : Int) ≤ c - x) = true := hgn
          rw [hgn']
          go_upto_region 6 with fail
          have hw3 := KF3.out.blk HW1.out trivial
          have HW3 := hideP hw3
          have d1 := hw3.cell 1 _ rfl
          have d4 := hw3.cell 4 _ rfl
          have g1 := hw3.free 1 (by simp [win])
          have hlt3 := hw3.lt
          have HT : Hid (tot ((x, y) :: r) + k - y = tot r + k) := by show _ = _; simp only [tot]; omega
          have hT1 : 0 ≤ tot ((x, y) :: r) + k - y := by rw [HT.out]; have := Good.nonneg HG1.out.2.2.2; have := HK1.out; omega
          have hT2 : tot ((x, y) :: r) + k - y ≤ 1000000 := by have := HM1.out; have := HG1.out.2.1; omega
          have HM2 : Hid (tot r + k ≤ 1000000) := by show _ ≤ _; rw [← HT.out]; exact hT2
          generalize tot ((x, y) :: r) + k = T at *
          have FR2 : Hid (∀ W, Keep (fun _ => True) w3 W → Calls Try.prog 28 #[.pointer (some ⟨rb, 0, none⟩)] W fun r w' => r = .returned (.agg #[.int .i64 x, .int .i64 y]) ∧ Below W.heap.size W w') := fun W hW => by
            have hR := HRI.out.keep (KF3.out.trans hW) (fun _ _ _ => trivial)
            exact front_any rb bb m0 head (x, y) r hR.bd hR.hd W hR.ring hR.buf
          clear hw3
          go_region_with (go_at_call 28; refine (FR2.out _ ((Keep.refl _ _).drew)).mono ?_; rintro e4 w4 ⟨rfl, hb4⟩; have d1' := (hb4.cell (p := ⟨wb, 1, none⟩) hlt3).trans d1; have g1' := (hb4.frozen (p := ⟨wb, 1, none⟩) hlt3).trans g1)
          all_goals
            have K4 : Hid (Keep (fun _ => True) w3 w4) := ((Keep.refl _ w3).drew).trans (Keep.of_below hb4)
            have e5 : IntKind.i64.wrap (T - y) = tot r + k := by rw [IntKind.wrap_i64]; have := HT.out; omega
            rw [e5]
            have HW5 : Hid (Blk (w4.setCell ⟨wb, 1, none⟩ (.int .i64 (tot r + k))) wb (win c (tot r + k) s k (.pointer (some ⟨rb, 0, none⟩)))) := (K4.out.blk HW3.out trivial).set 1 (by simp [win]) _
            have HR5 : Hid (IsRing (w4.setCell ⟨wb, 1, none⟩ (.int .i64 (tot r + k))) wb kb rb bb m0 head ((x, y) :: r)) :=
              (HRI.out.keep (KF3.out.trans K4.out) (fun _ _ _ => trivial)).keep ((Keep.refl (fun b => b ≠ wb) w4).set wb 1 _ (by simp)) (fun b h1 _ => by omega)
            have HK5 : Hid (Keep (KK wb kb) w (w4.setCell ⟨wb, 1, none⟩ (.int .i64 (tot r + k)))) :=
              (((HK1'.out.trans KF3.out.all).trans K4.out.all).set wb 1 _ (by have := HNE.out; unfold KK; omega))
            have HED : Hid (r.dropWhile (goneB S c) = ed) := by have h := HE1.out; rw [List.dropWhile_cons_of_pos hgn] at h; exact h
            generalize w4.setCell ⟨wb, 1, none⟩ (.int .i64 (tot r + k)) = w5 at HW5 HR5 HK5 ⊢
            have d4' := HW5.out.cell 4 _ rfl
            clear d1 d4 g1 d1' g1' hb4 e5 hT1 hT2
            have PP := hideP (pop_any rb bb m0 head (r.length + 1) HR5.out.bd HR5.out.pow HR5.out.hd (by omega) (by have := HR5.out.le; simpa using this) w5 HR5.out.ring)
            go_wp2_with fail
            refine PP.out.mono ?_
            rintro e6 w6 ⟨rfl, p1, p2⟩
            have HF : Hid (Blk w6 wb (win c (tot r + k) s k (.pointer (some ⟨rb, 0, none⟩))) ∧ RingAt w6 wb kb (.pointer (some ⟨rb, 0, none⟩)) r ∧ Keep (KK wb kb) w w6) := by
              have hR := HR5.out
              have h1 := hR.lr
              have h2 := hR.nr
              have h3 := hR.le
              have h4 := hR.hd
              simp only [List.length_cons] at h3
              refine ⟨p2.blk HW5.out (by omega), .inr ⟨rb, bb, m0, (head + 1) % m0, rfl, hR.lr, hR.nr, hR.lb, hR.nb, hR.ne, by simpa using p1, (hR.buf.keep p2 (Ne.symm hR.ne)).pop hR.hd (by omega), hR.pow, Nat.mod_lt _ (by omega), by omega, hR.bd⟩, HK5.out.trans (p2.mono fun b hb => by unfold KK at hb; omega)⟩
            clear p1 p2 PP
            go_wp2
            go_roundg (gk - 1)
            case measure => simp at hg1; omega
            case rel => exact ⟨r, by simp at hg1; omega, HED, HG1.out.2.2.2, HM2, HF.out.1, HF.out.2.1, HF.out.2.2⟩
        · have hgn' : decide ((S : Int) ≤ c - x) = false := by simpa [goneB] using hgn
          have HED : Hid ((x, y) :: r = ed) := by have h := HE1.out; rw [List.dropWhile_cons_of_neg hgn] at h; exact h
          rw [hgn']
          go_wp2
          first | (refine bodyPost_ret (results_none rfl _ _ _) rfl ?_) | (refine bodyPost_end (results_none rfl _ _ _) rfl ?_)
          rw [← HED.out]
          exact ⟨rfl, KF3.out.blk HW1.out trivial, HR1.out.keep KF3.out (fun _ _ _ => trivial), HK1'.out.trans KF3.out.all⟩
end Go.Proofs.Qxb6608745a
