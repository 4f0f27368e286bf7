import Derived.Test.Qxb6608745aReq2
import Derived.Deep.DeepAppendRoom
import Derived.Deep.DeepCutAuto
namespace Go.Proofs.Qxb6608745a
open Go.RowKit
set_option linter.unusedVariables false

/-- A slice that came in: at each index the cell holds f's value. -/
def ArgRow (W : World) (a : Option Addr) (n : Nat) (f : Nat → Value) : Prop :=
  ∀ i, i < n → ∃ b off, a = some ⟨b, off, none⟩ ∧ b < W.heap.size ∧ ∀ j, j < n → W.cell? ⟨b, off + j, none⟩ = some (f j)

theorem info2 : (Try.prog.info? 2).map (fun i => (i.zero, i.size, i.bytes)) = some (some (.int .i64 0), 1, 8) := by kernel_rfl

/-- The admitted slots' row. -/
def Kept (W : World) (kb cap : Nat) (K : List Int) : Prop := W.ownsRow 0 2 1 (.slice (some ⟨kb, 0, none⟩) K.length cap) K.length (K.map (Value.int .i64))

theorem Kept.same {W W' : World} {kb cap : Nat} {K : List Int} (h : Kept W kb cap K) (hb : W'.heap[kb]? = W.heap[kb]?) : Kept W' kb cap K := by
  refine ⟨h.1, ?_⟩
  rcases h.2 with ⟨h1, h2⟩ | ⟨g, c, cur, h1, h2, h3, h4⟩
  · exact .inl ⟨h1, h2⟩
  · refine .inr ⟨g, c, cur, h1, h2, ?_, h4⟩
    simp at h1
    obtain ⟨rfl, rfl⟩ := h1
    rw [hb]; exact h3

theorem Kept.cell {W : World} {kb cap : Nat} {K : List Int} (h : Kept W kb cap K) (i : Nat) (hi : i < K.length) : W.cell? ⟨kb, i, none⟩ = some (.int .i64 (K.getD i 0)) := by
  rcases h.2 with ⟨h1, _⟩ | ⟨g, c, cur, h1, hg, hh, hn, hm, hs, ht⟩
  · simp at h1
  · simp at h1
    obtain ⟨rfl, rfl⟩ := h1
    have e : cur[i]? = some (.int .i64 (K.getD i 0)) := by
      have : (cur.toList.take (K.length * 1))[i]? = (K.map (Value.int .i64))[i]? := by rw [ht]
      rw [List.getElem?_take_of_lt (by omega), Array.getElem?_toList, List.getElem?_map] at this
      rw [this, List.getD, List.getElem?_eq_getElem hi]; rfl
    simp [World.cell?, hh, e]

theorem zzBytes_any (x y z : Value) (a : Option Addr) (n cap : Nat) (hn : n ≤ 4096) (w : World) :
    Calls Try.prog 8 #[x, y, z, .slice a n cap] w fun e w' => e = .returned (.bool true) ∧ w' = w := by
  have h1 : decide ((1048576 : Int) < (n : Int)) = false := decide_eq_false (by omega)
  go_enter Try.func8, Try.ntmps8
  go_wp2
  go_ret
  exact ⟨rfl, rfl⟩

structure MSt (w : World) (wb lb kb n L S T : Nat) (K : List Int) (c : Int) (wr : World) : Prop where
  span : ∃ es s k p, Span S K c es s k ∧ WinAt wr wb kb c es s k p
  lim : Blk wr lb (lim n L S)
  kept : Kept wr kb T K
  bel : Below lb w wr
  cin : In c
  cmax : c ≤ slotI L S 9223372036854775807
  kin : ∀ x ∈ K, In x
  ltk : kb < wr.heap.size

/-- What the inner loop has found among the first q. -/
def found (S : Nat) (c : Int) (K : List Int) (q : Nat) : List Int := (K.take q).filter (inB S c)

theorem found_next (S : Nat) (c : Int) (K : List Int) (q : Nat) (h : q < K.length) : found S c K (q + 1) = found S c K q ++ (if inB S c (K.getD q 0) = true then [K.getD q 0] else []) := by
  unfold found
  rw [List.take_succ_eq_append_getElem h, List.filter_append]
  congr 1
  have : K.getD q 0 = K[q] := by simp [List.getD, h]
  rw [this]
  by_cases hb : inB S c K[q] = true
  · rw [if_pos hb]; simp [hb]
  · rw [if_neg hb]; simp [hb]

theorem found_all (S : Nat) (c : Int) (K : List Int) : found S c K K.length = K.filter (inB S c) := by
  unfold found; rw [List.take_length]

theorem found_le (S : Nat) (c : Int) (K : List Int) (q : Nat) : (found S c K q).length ≤ K.length := by
  have h1 := List.length_filter_le (inB S c) (K.take q)
  have h2 : (K.take q).length ≤ K.length := by rw [List.length_take]; omega
  unfold found; omega

set_option maxRecDepth 100000 in
set_option maxHeartbeats 4000000 in
theorem match_main (n L S : Nat) (a : Option Addr) (ts : List Int) (cap : Nat) (hS : 1 ≤ S) (hSL : S ≤ L) (hL : L ≤ 9223372036854775807) (hn2 : n ≤ 9223372036854775807) (hT : ts.length ≤ 4096) (w : World)
    (hrow : ArgRow w a ts.length (fun i => .int .i64 (ts.getD i 0))) (hin : ∀ i, In (ts.getD i 0)) :
    Calls Try.prog 5 #[.int .i64 n, .int .i64 L, .int .i64 S, .slice a ts.length cap] w fun e w' => e = .returned (.bool true) ∧ Below w.heap.size w w' := by
  have HL := hideP hL
  have HN2 := hideP hn2
  have HSL := hideP hSL
  have HROW := hideP hrow
  have HIN := hideP hin
  have hn0 : (decide ((n : Int) < 0)) = false := by simp
  have hk1 : (decide ((4096 : Int) < (ts.length : Int))) = false := decide_eq_false (by omega)
  have hs1 : (decide ((S : Int) < 1)) = false := decide_eq_false (by omega)
  have hls : (decide ((L : Int) < (S : Int))) = false := decide_eq_false (by omega)
  have hls' : decide (L < S) = false := decide_eq_false (by omega)
  obtain ⟨i1, hi, hz0, hz1, hz2⟩ := info_parts info2
  clear hSL hL hn2 hrow hin
  go_enter Try.func5, Try.ntmps5
  go_wp2_with fail
  refine (zzBytes_any _ _ _ a ts.length cap hT w).mono ?_
  rintro e w1 ⟨rfl, h1⟩
  subst w1
  go_wp2_with fail
  refine (newLimit_any n L S w).mono ?_
  rintro e w1 ⟨rfl, rfl⟩
  have HL1 : Hid (Blk (w.alloc (.cells #[.int .i64 n, .int .i64 L, .int .i64 S] 37)) w.heap.size (lim n L S)) := Blk.new _ _ _
  have HB1 : Hid (Below w.heap.size w (w.alloc (.cells #[.int .i64 n, .int .i64 L, .int .i64 S] 37))) := (Below.refl _ _).alloc (Nat.le_refl _) _
  generalize w.alloc (.cells #[.int .i64 n, .int .i64 L, .int .i64 S] 37) = W1 at HL1 HB1 ⊢
  generalize hlb : w.heap.size = lb at HL1 HB1 ⊢
  have HLB := hideP hlb
  clear hlb
  go_wp2_with fail
  refine (newWindow_any _ W1).mono ?_
  rintro e w1 ⟨rfl, rfl⟩
  have HW2 : Hid (Blk (W1.alloc (.cells #[.int .i64 (-9223372036854775808), .int .i64 0, .int .i64 0, .int .i64 0, .pointer none] 42)) W1.heap.size (win (-9223372036854775808) 0 0 0 (.pointer none))) := Blk.new _ _ _
  have HL2 : Hid (Blk (W1.alloc (.cells #[.int .i64 (-9223372036854775808), .int .i64 0, .int .i64 0, .int .i64 0, .pointer none] 42)) lb (lim n L S)) := HL1.out.alloc _
  have HB2 : Hid (Below lb w (W1.alloc (.cells #[.int .i64 (-9223372036854775808), .int .i64 0, .int .i64 0, .int .i64 0, .pointer none] 42))) := HB1.out.alloc (Nat.le_of_lt HL1.out.lt) _
  have HLT := hideP HL1.out.lt
  generalize W1.alloc (.cells #[.int .i64 (-9223372036854775808), .int .i64 0, .int .i64 0, .int .i64 0, .pointer none] 42) = W2 at HW2 HL2 HB2 ⊢
  generalize W1.heap.size = wb at HW2 HLT ⊢
  clear HL1 HB1
  go_wp2_with (at_make; refine wpList_make_own _ rfl _ _ 24 rfl 0 2 i1 _ 1 Try.underlying24 hi hz0 hz1 _ _ _ ts.length rfl rfl rfl (by rw [hz2]; omega) (by unfold maxLen; omega) (Nat.zero_le _) ?_; intro w3 hown hgr)
  have M0 : Hid (MSt w wb lb W2.heap.size n L S ts.length [] (-9223372036854775808) w3) := by
    have K3 : Keep (fun _ => True) W2 w3 := (Keep.refl _ W2).grown hgr
    have hj := slotI_in hS HSL.out (x := 9223372036854775807) ⟨by omega, by omega⟩
    refine ⟨⟨[], 0, 0, .pointer none, span_new S, K3.blk HW2.out trivial, .inl ⟨rfl, rfl⟩⟩, K3.blk HL2.out trivial, hown, HB2.out.trans (K3.below (by have := HL2.out.lt; omega) (fun _ _ => trivial)), ⟨by omega, by omega⟩, hj.1, fun x hx => by simp at hx, ?_⟩
    rcases hown.2 with ⟨h1, _⟩ | ⟨g', cap', cur, h1, hg, hh, _⟩
    · simp at h1
    · simp at h1
      rw [h1.1]
      exact (Array.getElem?_eq_some_iff.1 hh).1
  have HNE : Hid (wb ≠ W2.heap.size) := by show _ ≠ _; have := HW2.out.lt; omega
  have hwk : Hid (wb < W2.heap.size) := HW2.out.lt
  clear hown hgr HW2 HL2 HB2
  generalize W2.heap.size = kb at *
  go_loopg [11, 12, 14, 15, 16, 17, 18, 20, 21, 22, 23, 24, 55] ts.length (fun g s11 s12 s14 s15 s16 s17 s18 s20 s21 s22 s23 s24 s55 wr => ∃ (i : Nat) (K : List Int) (c : Int), i ≤ ts.length ∧ ts.length - i ≤ g ∧ K.length ≤ i ∧ s55 = .int .i64 i ∧ s11 = .slice (some ⟨kb, 0, none⟩) K.length ts.length ∧ s12 = .int .i64 c ∧ Hid (MSt w wb lb kb n L S ts.length K c wr))
  case atStart => exact ⟨0, [], _, by omega, by omega, by simp, rfl, rfl, rfl, M0⟩
  case round =>
    obtain ⟨i, K, c, hi1, hg, hKi, rfl, rfl, rfl, HM⟩ := hrel
    obtain ⟨G, hG⟩ : ∃ G, G = gk := ⟨_, rfl⟩
    subst hG
    by_cases hlt : i < ts.length
    · obtain ⟨b, off, ha, hb, hcells⟩ := HROW.out i hlt
      subst ha
      have hx : wr.cell? ⟨b, off + i, none⟩ = some (.int .i64 (ts.getD i 0)) := (HM.out.bel.cell (p := ⟨b, off + i, none⟩) (by have := HLB.out; show b < lb; omega)).trans (hcells i hlt)
      have hti := HIN.out i
      generalize ts.getD i 0 = t at hx hti
      have HTI := hideP hti
      have CS := hideP (zzSlotOf_any L S t hti hS HSL.out HL.out)
      have hltb : decide ((i : Int) < (ts.length : Int)) = true := decide_eq_true (by omega)
      clear hcells hti hb
      obtain ⟨Wr, hWr⟩ : ∃ Wr, Wr = wr := ⟨_, rfl⟩
      subst hWr
      go_wp2_with fail
      refine (CS.out Wr).mono ?_
      rintro e w1 ⟨rfl, h1⟩
      subst w1
      go_upto_if 65 with fail
      go_cut [12] (fun s12 wx => s12 = .int .i64 (clock L S c t) ∧ wx = Wr)
      case first =>
        by_cases hj : c < slotI L S t
        · have hj' : decide (c < slotI L S t) = true := decide_eq_true hj
          have HF : Hid (clock L S c t = slotI L S t) := if_pos hj
          go_wp2
          go_meet
          case rel => exact ⟨by rw [HF.out], rfl⟩
        · have hj' : decide (c < slotI L S t) = false := decide_eq_false hj
          have HF : Hid (clock L S c t = c) := if_neg hj
          go_wp2
          go_meet
          case rel => exact ⟨by rw [HF.out], rfl⟩
      case rest =>
        obtain ⟨rfl, rfl⟩ := hcut
        have HCI := hideP (clock_in hS HSL.out HM.out.cin HTI.out)
        have HCG := hideP (clock_ge L S c t)
        generalize hcc : clock L S c t = cc at HCI HCG ⊢
        have HCC := hideP hcc
        clear hcc
        go_wp2
        go_loopg [16, 17, 18, 20, 21, 69] K.length (fun g s16 s17 s18 s20 s21 s69 wx => ∃ q : Nat, q ≤ K.length ∧ K.length - q ≤ g ∧ s69 = .int .i64 q ∧ s16 = .int .i64 ((found S cc K q).length : Nat) ∧ s17 = .int .i64 ((found S cc K q).headD 0) ∧ s18 = .bool (decide (0 < (found S cc K q).length)) ∧ wx = wc)
        case atStart => exact ⟨0, by omega, by omega, rfl, rfl, rfl, rfl, rfl⟩
        case round =>
          obtain ⟨q, hq, hgq, rfl, rfl, rfl, rfl, hww⟩ := hrel
          subst hww
          by_cases hql : q < K.length
          · have hx2 := HM.out.kept.cell q hql
            have hxm : K.getD q 0 ∈ K := by simp [List.getD, hql]
            have HXI := hideP (HM.out.kin _ hxm)
            have hfn := found_next S cc K q hql
            have hfl := found_le S cc K q
            clear hxm
            generalize K.getD q 0 = x at hx2 HXI hfn
            generalize found S cc K q = F at hfn hfl ⊢
            have HFN := hideP hfn
            clear hfn
            have hqlb : decide ((q : Int) < (K.length : Int)) = true := decide_eq_true (by omega)
            have sA1 : -9223372036854775808 + (S : Int) ≤ 9223372036854775807 := by have := HSL.out; have := HL.out; omega
            have sA2 : -9223372036854775808 ≤ -9223372036854775808 + (S : Int) := by omega
            by_cases hin : inB S cc x = true
            · have HF' : Hid (found S cc K (q + 1) = F ++ [x]) := by have h := HFN.out; rw [if_pos hin] at h; exact h
              have hgt : decide (cc - (S : Int) < x) = true := hin
              by_cases hA : -9223372036854775808 + (S : Int) ≤ cc
              · have hA' : decide (-9223372036854775808 + (S : Int) ≤ cc) = true := decide_eq_true hA
                have hs1' : -9223372036854775808 ≤ cc - (S : Int) := by omega
                have hs2' : cc - (S : Int) ≤ 9223372036854775807 := by have := HCI.out.2; omega
                by_cases hF : 0 < F.length
                · have hF' : decide (0 < F.length) = true := decide_eq_true hF
                  rw [hF']
                  go_wp2
                  go_roundg (gk - 1)
                  case measure => omega
                  case rel =>
                    refine ⟨q + 1, by omega, by omega, by go_num, by rw [HF'.out]; simp, ?_, by rw [HF'.out]; simp, rfl⟩
                    rw [HF'.out]; rcases F with _ | ⟨y, r⟩
                    · simp at hF
                    · rfl
                · have hF' : decide (0 < F.length) = false := decide_eq_false hF
                  have hFn : F = [] := List.eq_nil_of_length_eq_zero (by omega)
                  rw [hF']
                  go_wp2
                  go_roundg (gk - 1)
                  case measure => omega
                  case rel => exact ⟨q + 1, by omega, by omega, by go_num, by rw [HF'.out, hFn]; simp, by rw [HF'.out, hFn]; rfl, by rw [HF'.out]; simp, rfl⟩
              · have hA' : decide (-9223372036854775808 + (S : Int) ≤ cc) = false := decide_eq_false hA
                by_cases hF : 0 < F.length
                · have hF' : decide (0 < F.length) = true := decide_eq_true hF
                  rw [hF']
                  go_wp2
                  go_roundg (gk - 1)
                  case measure => omega
                  case rel =>
                    refine ⟨q + 1, by omega, by omega, by go_num, by rw [HF'.out]; simp, ?_, by rw [HF'.out]; simp, rfl⟩
                    rw [HF'.out]; rcases F with _ | ⟨y, r⟩
                    · simp at hF
                    · rfl
                · have hF' : decide (0 < F.length) = false := decide_eq_false hF
                  have hFn : F = [] := List.eq_nil_of_length_eq_zero (by omega)
                  rw [hF']
                  go_wp2
                  go_roundg (gk - 1)
                  case measure => omega
                  case rel => exact ⟨q + 1, by omega, by omega, by go_num, by rw [HF'.out, hFn]; simp, by rw [HF'.out, hFn]; rfl, by rw [HF'.out]; simp, rfl⟩
            · have HF' : Hid (found S cc K (q + 1) = F) := by have h := HFN.out; rw [if_neg hin, List.append_nil] at h; exact h
              have hgt : decide (cc - (S : Int) < x) = false := by simpa [inB] using hin
              have hA : -9223372036854775808 + (S : Int) ≤ cc := by
                have h1 : ¬ cc - (S : Int) < x := of_decide_eq_false hgt
                have := HXI.out.1
                omega
              have hA' : decide (-9223372036854775808 + (S : Int) ≤ cc) = true := decide_eq_true hA
              have hs1' : -9223372036854775808 ≤ cc - (S : Int) := by omega
              have hs2' : cc - (S : Int) ≤ 9223372036854775807 := by have := HCI.out.2; omega
              go_wp2
              go_roundg (gk - 1)
              case measure => omega
              case rel => exact ⟨q + 1, by omega, by omega, by go_num, by rw [HF'.out], by rw [HF'.out], by rw [HF'.out], rfl⟩
          · obtain rfl : q = K.length := by omega
            rw [found_all]
            obtain ⟨es, sn, kn, pp, hsp, hwin⟩ := HM.out.span
            have hK4 : K.length ≤ 4096 := by omega
            have hqlb : decide ((K.length : Int) < (K.length : Int)) = false := decide_eq_false (by omega)
            by_cases hN : (K.filter (inB S cc)).length < n
            · have hRA := req_admit wb lb kb n L S hS HSL.out HL.out HN2.out HLT.out HNE.out K c t es sn kn pp wr HTI.out HM.out.cin hK4 hsp hwin HM.out.lim HM.out.ltk (by rw [HCC.out]; exact hN)
              rw [HCC.out] at hRA
              obtain ⟨es2, s2, k2, h2, C2⟩ := hRA
              have HC2 := hideP C2
              have HS2 := hideP h2
              have hcnt : decide (((K.filter (inB S cc)).length : Int) < (n : Int)) = true := decide_eq_true (by omega)
              clear hsp hwin C2 h2
              generalize hF : K.filter (inB S cc) = F at *
              go_wp2_with fail
              refine HC2.out.mono ?_
              rintro e w5 ⟨rfl, p2, hw5, hk5⟩
              have HW5 := hideP hw5
              have HK5 := hideP hk5
              have HKP : Hid (Kept (w5.alloc (.cells #[.int .i64 cc] 2)) kb ts.length K) := (HM.out.kept.same (hk5.block kb HM.out.ltk (.inr rfl))).same (Below.heap_alloc _ _ _ (by have := hk5.size; have := HM.out.ltk; omega))
              clear hw5 hk5
              go_wp2_with (at_builtin; refine wpList_append_own_spare _ rfl _ _ 24 rfl 0 2 i1 1 Try.underlying24 hi hz1 kb K.length ts.length _ rfl HKP.out ⟨w5.heap.size, 0, none⟩ 1 1 [.int .i64 cc] rfl rfl (cell_one_new _ _ _) (by simp [Value.oneCell']) (by omega) ?_; intro w6 hown6 hgr6)
              go_roundg (G - 1)
              case measure => omega
              case rel =>
                have KA : Keep (KK wb kb) wr (w5.alloc (.cells #[.int .i64 cc] 2)) := HK5.out.alloc _
                have KG : Keep (fun b => b ≠ kb) (w5.alloc (.cells #[.int .i64 cc] 2)) w6 := ⟨hgr6.os, hgr6.tape, hgr6.output, hgr6.size, fun b hb hp => hgr6.block b hb (fun e => hp (by injection e))⟩
                have KW : Keep (fun _ => True) w5 (w5.alloc (.cells #[.int .i64 cc] 2)) := (Keep.refl _ _).alloc _
                have hwin6 := HW5.out.keep KW
                have hlk : lb ≠ kb := by have := HLT.out; have := hwk.out; omega
                refine ⟨i + 1, K ++ [cc], cc, by omega, by omega, by simp; omega, by go_num, by simp, rfl, ⟨⟨es2, s2, k2, p2, HS2.out, KG.blk hwin6.1 HNE.out, hwin6.2.keep KG (fun b _ h => h)⟩, KG.blk (KA.blk HM.out.lim (.inl HLT.out)) hlk, ?_, ?_, HCI.out, ?_, ?_, ?_⟩⟩
                · unfold Kept
                  rw [List.map_append, List.length_append]
                  exact hown6
                · refine HM.out.bel.trans ((KA.below (by have := HM.out.lim.lt; omega) (fun b hb => .inl (by have := HLT.out; omega))).trans (KG.below (by have := HM.out.lim.lt; have := KA.size; omega) (fun b hb => by have := HLT.out; have := hwk.out; omega)))
                · rw [← HCC.out]; exact clock_max hS HSL.out HM.out.cmax HTI.out
                · intro x hx
                  rcases List.mem_append.1 hx with hx | hx
                  · exact HM.out.kin x hx
                  · simp at hx; subst hx; exact HCI.out
                · have := KA.size; have := KG.size; have := HM.out.ltk; omega
            · have hRA := req_refuse wb lb kb n L S hS HSL.out HL.out HN2.out HLT.out HNE.out K c t es sn kn pp wr HTI.out HM.out.cin HM.out.cmax hK4 hsp hwin HM.out.lim HM.out.ltk (by rw [HCC.out]; omega)
              rw [HCC.out] at hRA
              obtain ⟨es2, s2, k2, h2, C2⟩ := hRA
              have HS2 := hideP h2
              have HM2 : Hid (∀ w5, (∃ p2, WinAt w5 wb kb cc es2 s2 k2 p2 ∧ Keep (KK wb kb) wr w5) → MSt w wb lb kb n L S ts.length K cc w5) := fun w5 ⟨p2, hw5, hk5⟩ =>
                ⟨⟨es2, s2, k2, p2, HS2.out, hw5⟩, hk5.blk HM.out.lim (.inl HLT.out), HM.out.kept.same (hk5.block kb HM.out.ltk (.inr rfl)), HM.out.bel.trans (hk5.below (by have := HM.out.lim.lt; omega) (fun b hb => .inl (by have := HLT.out; omega))), HCI.out, by rw [← HCC.out]; exact clock_max hS HSL.out HM.out.cmax HTI.out, HM.out.kin, by have := hk5.size; have := HM.out.ltk; omega⟩
              have hcnt : decide (((K.filter (inB S cc)).length : Int) < (n : Int)) = false := decide_eq_false (by omega)
              have hcnt' : decide ((K.filter (inB S cc)).length < n) = false := decide_eq_false hN
              obtain ⟨want, hwant⟩ : ∃ want, want = wantV n L S K cc t := ⟨_, rfl⟩
              rw [← hwant] at C2
              have HC2 := hideP C2
              by_cases hz : n = 0
              · have hz' : decide (0 < (n : Int)) = false := decide_eq_false (by omega)
                have hz2' : decide (0 < n) = false := decide_eq_false (by omega)
                have hz3' : ¬ 0 < n := by omega
                have HF : Hid (want = 9223372036854775807) := hwant.trans (if_pos hz)
                have hne0 : ((want : Int) != 9223372036854775807) = false := by rw [HF.out]; simp
                clear hsp hwin C2 h2 hwant hN hz
                generalize (K.filter (inB S cc)).headD 0 = od at *
                generalize K.filter (inB S cc) = F at *
                go_wp2_with fail
                refine HC2.out.mono ?_
                rintro e w5 ⟨rfl, hw5⟩
                have HM5 := hideP (HM2.out w5 hw5)
                clear hw5
                go_wp2
                go_roundg (G - 1)
                case measure => omega
                case rel => exact ⟨i + 1, K, cc, by omega, by omega, by omega, by go_num, rfl, rfl, HM5⟩
              · have hz' : decide (0 < (n : Int)) = true := decide_eq_true (by omega)
                have hz2' : decide (0 < n) = true := decide_eq_true (by omega)
                have hz3' : 0 < n := by omega
                have hne : K.filter (inB S cc) ≠ [] := fun e => by rw [e] at hN; simp at hN; omega
                have hmem : (K.filter (inB S cc)).headD 0 ∈ K.filter (inB S cc) := by
                  rcases hh : K.filter (inB S cc) with _ | ⟨y, r⟩
                  · exact absurd hh hne
                  · simp
                have hm1 := (List.mem_filter.1 hmem).1
                have hm2 : cc - (S : Int) < (K.filter (inB S cc)).headD 0 := by have h := (List.mem_filter.1 hmem).2; simpa [inB] using h
                have CW := hideP (zzWaitFor_any L S ((K.filter (inB S cc)).headD 0) t HTI.out (HM.out.kin _ hm1) hS HSL.out HL.out (by have := HCG.out.2; omega))
                have HF : Hid (waitV L S ((K.filter (inB S cc)).headD 0) t = want) := by rw [hwant]; exact (if_neg hz).symm
                have hne0 : ((want : Int) != want) = false := by simp
                clear hsp hwin C2 h2 hwant hN hz hne hmem hm1 hm2
                generalize (K.filter (inB S cc)).headD 0 = od at *
                generalize K.filter (inB S cc) = F at *
                go_wp2_with fail
                refine HC2.out.mono ?_
                rintro e w5 ⟨rfl, hw5⟩
                have HM5 := hideP (HM2.out w5 hw5)
                clear hw5
                go_wp2_with fail
                refine (CW.out w5).mono ?_
                rintro e w6 ⟨rfl, h6⟩
                subst w6
                rw [HF.out]
                go_wp2
                go_roundg (G - 1)
                case measure => omega
                case rel => exact ⟨i + 1, K, cc, by omega, by omega, by omega, by go_num, rfl, rfl, HM5⟩
    · go_wp2
      go_ret
      exact ⟨rfl, HLB.out ▸ HM.out.bel⟩
end Go.Proofs.Qxb6608745a
