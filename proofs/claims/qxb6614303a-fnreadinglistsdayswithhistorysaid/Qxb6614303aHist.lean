import Derived.Test.Qxb6614303aEq
import Derived.Test.Qxb6614303aTwice
import Derived.Test.Qxb6614303aPlain3
import Derived.Deep.DeepCutAuto
import Derived.BigQuiet
import Derived.Deep.QuietTactic
namespace Go.Proofs.Qxb6614303a
open Go.RowKit Go.Sort
set_option linter.unusedVariables false

theorem info3 : (Try.prog.info? 3).map (fun i => (i.zero, i.size, i.bytes)) = some (some (.int .i64 0), 1, 8) := by kernel_rfl
theorem info4 : (Try.prog.info? 4).map (fun i => (i.zero, i.size, i.bytes)) = some (some (.bool false), 1, 1) := by kernel_rfl

set_option maxHeartbeats 4000000 in
set_option maxRecDepth 100000 in
theorem hist_walk (a0 a1 a2 a3 : Option Addr) (n1 n3 c0 c1 c2 c3 : Nat) (ms ts : List Int) (ls : List ByteArray) (fs : List Nat) (step : Int) (w : World)
    (A0 : ArgRow w a0 ms.length (fun i => .int .i64 (ms.getD i 0))) (A1 : ArgRow w a1 n1 (fun i => .string (ls.getD i ByteArray.empty)))
    (A2 : ArgRow w a2 ts.length (fun i => .int .i64 (ts.getD i 0))) (A3 : ArgRow w a3 n3 (fun i => .float .f64 (fs.getD i 0)))
    (B0 : ∀ i, -9223372036854775808 ≤ ms.getD i 0 ∧ ms.getD i 0 ≤ 9223372036854775807) (B2 : ∀ i, -9223372036854775808 ≤ ts.getD i 0 ∧ ts.getD i 0 ≤ 9223372036854775807)
    (h0 : ms.length ≤ maxLen) (h1 : n1 ≤ maxLen) (h2 : ts.length ≤ maxLen) (h3 : n3 ≤ maxLen) (s0 : ms.length ≤ 4096) (s1 : n1 ≤ 4096) (s2 : ts.length ≤ 4096) (s3 : n3 ≤ 4096) (e1 : n1 = ms.length) (e3 : n3 = ts.length) :
    Calls Try.prog 5 #[.slice a0 ms.length c0, .slice a1 n1 c1, .slice a2 ts.length c2, .slice a3 n3 c3, .int .i64 step] w fun e w' => e = .returned (.bool true) ∧ Below w.heap.size w w' := by
  subst e1 e3
  have hbytes := bytes11_any a0 a1 a2 a3 ms.length ms.length ts.length ts.length c0 c1 c2 c3 ls step w A1 h0 h1 h2 h3
  have HB := hideP hbytes
  have HA0 := hideP A0
  have HA1 := hideP A1
  have HA2 := hideP A2
  have HA3 := hideP A3
  have HB0 := hideP B0
  have HB2 := hideP B2
  clear A0 A1 A2 A3 B0 B2 hbytes h0 h1 h2 h3
  go_enter Try.func5, Try.ntmps5
  go_wp2_with fail
  refine HB.out.mono ?_
  rintro e w1 ⟨⟨b, rfl⟩, hw⟩
  subst w1
  cases b
  · go_wp2
    go_ret
    exact ⟨rfl, Below.refl _ _⟩
  go_wp2
  go_loop [11, 12] (fun z i => ∃ (k : Nat) (x : Int), k ≤ ms.length ∧ i = .int .i64 k ∧ z = .int .i64 x) (fun _ i => ms.length - (intOf i).toNat)
  case atStart => exact ⟨0, _, Nat.zero_le _, rfl, rfl⟩
  case round =>
    obtain ⟨k, x, hk, rfl, rfl⟩ := hrel
    by_cases hlt : k < ms.length
    · obtain ⟨b1, o1, ha1, hb1, hc1⟩ := HA1.out k hlt
      subst ha1
      have d1 : w.cell? ⟨b1, o1 + k, none⟩ = some (.string (ls.getD k ByteArray.empty)) := hc1 k hlt
      generalize ls.getD k ByteArray.empty = lb at d1
      clear hc1
      have hkz : (k : Int) < (ms.length : Int) := by omega
      go_wp2
      · go_ret; exact ⟨rfl, Below.refl _ _⟩
      go_round
      case rel => exact ⟨k + 1, _, by omega, by go_num, rfl⟩
      case measure => simp [intOf]; omega
    · go_wp2
      go_loopw [13] (fun s13 wr => ∃ k q : Nat, s13 = .int .i64 (k + 1) ∧ (k + 1 ≤ ts.length ∨ k = 0) ∧ SortedTo ts (k + 1) ∧ wr = w.drewN q) (fun s13 _ => ts.length - (intOf s13).toNat)
      case atStart => exact ⟨0, 0, rfl, Or.inr rfl, fun i hi => by omega, rfl⟩
      case round =>
        obtain ⟨k, q, rfl, hkk, hso, hwr⟩ := hrel
        have HSO := hideP hso
        clear hso
        subst hwr
        by_cases hlt2 : k + 1 < ts.length
        · obtain ⟨b2, o2, ha2, hb2, hc2⟩ := HA2.out k (by omega)
          subst ha2
          have d0 : w.cell? ⟨b2, o2 + k, none⟩ = some (.int .i64 (ts.getD k 0)) := hc2 k (by omega)
          have d1 : w.cell? ⟨b2, o2 + (k + 1), none⟩ = some (.int .i64 (ts.getD (k + 1) 0)) := hc2 (k + 1) hlt2
          clear hc2
          generalize hx0 : ts.getD k 0 = x0 at d0
          generalize hx1 : ts.getD (k + 1) 0 = x1 at d1
          have X := hideP (And.intro hx0 hx1)
          clear hx0 hx1
          have hkz : (k : Int) + 1 < (ts.length : Int) := by omega
          have hkz2 : (k : Int) < (ts.length : Int) := by omega
          by_cases hx : x1 < x0
          · go_wp2_with fail
            go_quiet (fail)
            go_wp2
            go_ret
            exact ⟨rfl, bdN (bdN (Below.refl _ _) _) _⟩
          · go_wp2_with fail
            go_quiet (fail)
            go_wp2
            go_roundw
            case rel => exact ⟨k + 1, q + nq, by go_num, Or.inl (by omega), fun i h1 h2 => by
                by_cases e : i = k
                · subst e; rw [X.out.1, X.out.2]; omega
                · exact HSO.out i (by omega) h2, rfl⟩
            case measure => simp [intOf]; omega
        · have hso : Sorted ts := HSO.out.all (by omega)
          have HSS := hideP hso
          have hbw : Below w.heap.size w (w.drewN q) := bdN (Below.refl _ _) q
          have hmk := make_any a0 a1 a2 a3 c0 c1 c2 c3 ms ts ls fs step (w.drewN q) (HA0.out.below hbw rfl) (HA1.out.below hbw rfl) (HA2.out.below hbw rfl) (HA3.out.below hbw rfl) HB0.out HB2.out (by omega) (by omega)
          have HMK := hideP hmk
          clear hso hmk hbw
          go_wp2_with fail
          refine HMK.out.mono ?_
          rintro e w1 ⟨sb, rfl, hm1, hm2, hm3, hm4, hm5, hm6⟩
          simp only [World.heap_drewN] at hm1 hm2 hm3
          have M1 := hideP hm1
          have M5 := hideP hm5
          have M6 := hideP hm6
          have BW1 : Hid (Below w.heap.size w w1) := (bdN (Below.refl _ _) q).trans hm1
          clear hm1 hm5 hm6
          obtain ⟨i1, hi, hz0, hz1, hz2⟩ := info_parts info3
          go_wp2_with (at_make; refine wpList_make_full _ rfl _ _ 38 rfl (w1.heap.size + 1) 3 i1 _ 1 Try.underlying38 hi hz0 hz1 _ _ _ _ ms.length rfl rfl rfl rfl (by rw [hz2]; omega) (by unfold maxLen; omega) (by simp) ?_; intro w3 hown hgr)
          have hsA : (w1.alloc (.cells #[.slice (some ⟨sb, 0, none⟩) ts.length ts.length, .int .i64 step] 35)).heap.size = w1.heap.size + 1 := by simp
          rw [hsA] at hown
          have R0 : Hid (Row1 w3 (w1.heap.size + 1) ms.length (fun _ => .int .i64 0) (fun _ => True)) := Row1.made hown
          have BB : Hid (Below (w1.heap.size + 1) (w1.alloc (.cells #[.slice (some ⟨sb, 0, none⟩) ts.length ts.length, .int .i64 step] 35)) w3) := (Below.refl _ _).grown hgr (by simp) (fun k hk => by cases hk)
          clear hown hgr hsA hi hz0 hz1 hz2
          go_loopw [17, 18] (fun s17 s18 wr => ∃ k : Nat, s17 = .int .i64 ((listed ts (ms.take k)).length : Nat) ∧ s18 = .int .i64 k ∧ k ≤ ms.length ∧ Row1 wr (w1.heap.size + 1) ms.length (fun i => .int .i64 (before ts (ms.getD i 0) : Nat)) (fun i => i < k) ∧ Below (w1.heap.size + 1) (w1.alloc (.cells #[.slice (some ⟨sb, 0, none⟩) ts.length ts.length, .int .i64 step] 35)) wr) (fun _ s18 _ => ms.length - (intOf s18).toNat)
          case atStart => exact ⟨0, rfl, rfl, Nat.zero_le _, (R0.out.mono (D' := fun i => i < 0) (fun i _ h => trivial)).congr (fun i _ h => absurd h (Nat.not_lt_zero _)), BB.out⟩
          case round =>
            clear R0 BB
            obtain ⟨k, rfl, rfl, hk3, hR, hB⟩ := hrel
            have HR := hideP hR
            have HB' := hideP hB
            clear hR hB
            have hrl := HR.out.lt
            have hll := listed_le ts (ms.take k)
            have hlt' : (ms.take k).length ≤ k := List.length_take_le _ _
            have bc : Below w1.heap.size w1 wr := ((Below.refl _ _).alloc (Nat.le_refl _) _).trans (HB'.out.mono (by omega))
            have BC := hideP bc
            have hbw : Below w.heap.size w wr := BW1.out.trans (bc.mono (by have := BW1.out.size; omega))
            have HBW := hideP hbw
            clear bc hbw
            by_cases hlt3 : k < ms.length
            · obtain ⟨b0, o0, ha0, hb0, hc0⟩ := HA0.out k hlt3
              subst ha0
              have m0 : wr.cell? ⟨b0, o0 + k, none⟩ = some (.int .i64 (ms.getD k 0)) := (HBW.out.cell (p := ⟨b0, o0 + k, none⟩) hb0).trans (hc0 k hlt3)
              have hsn := listed_snoc ts ms k hlt3
              have HSN := hideP hsn
              have ble := before_le ts (ms.getD k 0)
              have hcl := samplesBefore_any a2 c2 ts (ms.getD k 0) wr (HA2.out.below HBW.out rfl) (by omega)
              have HCL := hideP hcl
              clear hc0 hsn hcl
              obtain ⟨u0, f0⟩ := HR.out.room k hlt3
              have z0 := HR.out.free k hlt3
              generalize hbe : before ts (ms.getD k 0) = bv at ble HCL HSN
              have HBE := hideP hbe
              clear hbe
              generalize ms.getD k 0 = m at m0 HCL HSN
              generalize hlv : (listed ts (ms.take k)).length = lv at hll
              have HLV := hideP hlv
              clear hlv
              have hkz : (k : Int) < (ms.length : Int) := by omega
              have RS : Hid (Row1 (wr.setCell ⟨w1.heap.size + 1, k, none⟩ (.int .i64 bv)) (w1.heap.size + 1) ms.length (fun i => .int .i64 (before ts (ms.getD i 0) : Nat)) (fun i => i < k + 1)) := by
                refine ((HR.out.store k hlt3 (.int .i64 bv)).mono (D' := fun i => i < k + 1) (fun i _ h => by omega)).congr (fun i _ h => ?_)
                by_cases e : i = k
                · subst e; rw [if_pos rfl, HBE.out]
                · rw [if_neg e]
              by_cases hbp : 0 < bv
              · go_wp2_with fail
                refine HCL.out.mono ?_
                rintro e w4 ⟨rfl, hw⟩
                subst w4
                go_wp2
                go_roundw
                case rel => exact ⟨k + 1, by rw [HSN.out, if_pos hbp, List.length_append, HLV.out]; go_num, by go_num, by omega, RS.out, HB'.out.setCell (Nat.le_refl _) _⟩
                case measure => simp [intOf]; omega
              · go_wp2_with fail
                refine HCL.out.mono ?_
                rintro e w4 ⟨rfl, hw⟩
                subst w4
                go_wp2
                go_roundw
                case rel => exact ⟨k + 1, by rw [HSN.out, if_neg hbp, List.append_nil, HLV.out], by go_num, by omega, RS.out, HB'.out.setCell (Nat.le_refl _) _⟩
                case measure => simp [intOf]; omega
            · have ek : ms.take k = ms := List.take_of_length_le (by omega)
              rw [ek]
              clear hll hlt'
              have hll := listed_le ts ms
              obtain ⟨W6, hW6⟩ : ∃ W6, W6 = wr := ⟨_, rfl⟩
              subst hW6
              have RC := hideP (HR.out.mono (D' := fun i => i < ms.length) (fun i _ h => by omega))
              have hC1 : Cal W6 (w.heap.size + 1) ms ls := M5.out.below BC.out hm2
              have hS1 : Samples W6 sb ts fs := M6.out.below BC.out hm4
              have hr1 := zzreading_any (w.heap.size + 1) ms.length sb ts.length ms ls ts fs step W6 hC1 hS1 (by omega) (by omega) (by omega) (by omega) HSS.out
              have HR1 := hideP hr1
              have HC1 := hideP hC1
              have hser0 : W6.cell? ⟨w1.heap.size, 0, none⟩ = some (.slice (some ⟨sb, 0, none⟩) ts.length ts.length) := by rw [HB'.out.cell (p := ⟨w1.heap.size, 0, none⟩) (by show w1.heap.size < _; omega)]; go_simp
              have hser1 : W6.cell? ⟨w1.heap.size, 1, none⟩ = some (.int .i64 step) := by rw [HB'.out.cell (p := ⟨w1.heap.size, 1, none⟩) (by show w1.heap.size < _; omega)]; go_simp
              clear hr1 hC1 hS1 ek
              generalize hlen : (listed ts ms).length = nl at hll
              have HLEN := hideP hlen
              clear hlen
              go_wp2_with fail
              refine HR1.out.mono ?_
              rintro e w7 ⟨rb1, rfl, hb7, hrb1, L1, hp1, hq1, hL1⟩
              have hs7 : W6.heap.size ≤ w7.heap.size := hb7.size
              have HB7 := hideP hb7
              have HP1 := hideP hp1
              have HQ1 := hideP hq1
              have HL1 := hideP hL1
              have hl1 : L1.length = nl := by rw [hp1.length_eq, HLEN.out]
              have hln1 := len_any rb1 L1 w7 hL1
              rw [hl1] at hln1
              have HLN1 := hideP hln1
              have HL1E := hideP hl1
              clear hb7 hp1 hq1 hL1 hln1 hl1 hser0 hser1
              go_wp2_with fail
              refine HLN1.out.mono ?_
              rintro e w9 ⟨rfl, hw⟩
              subst w9
              have hqq : ((nl : Int) != (nl : Int)) = false := by simp
              obtain ⟨i2, hj, hy0, hy1, hy2⟩ := info_parts info4
              go_wp2_with (at_make; refine wpList_make_full _ rfl _ _ 43 rfl w7.heap.size 4 i2 _ 1 Try.underlying43 hj hy0 hy1 _ _ _ _ ms.length rfl rfl rfl rfl (by rw [hy2]; omega) (by unfold maxLen; omega) (by simp) ?_; intro w10 hown hgr)
              have U0 : Hid (Row1 w10 w7.heap.size ms.length (fun _ => .bool false) (fun _ => True)) := Row1.made hown
              have BU : Hid (Below w7.heap.size w7 w10) := (Below.refl _ _).grown hgr (Nat.le_refl _) (fun k hk => by cases hk)
              clear hown hgr hj hy0 hy1 hy2
              have BF7 : Hid (Below w.heap.size w w7) := HBW.out.trans (HB7.out.mono (by have := HBW.out.size; omega))
              have hn1 : nl ≤ 4096 := by omega
              go_loopg [22, 23, 24, 25, 26] nl (fun g9 s22 s23 s24 s25 s26 wr => ∃ (k : Nat) (u : Nat → Bool), s22 = .int .i64 k ∧ k ≤ nl ∧ nl - k ≤ g9 ∧ Hid (Row1 wr w7.heap.size ms.length (fun i => .bool (u i)) (fun _ => True)) ∧ Hid (Inv ts ms L1 u k) ∧ Hid (Below w7.heap.size w7 wr))
              case atStart => exact ⟨0, fun _ => false, rfl, Nat.zero_le _, by omega, U0.out, inv_start ts ms L1, BU.out⟩
              case round =>
                clear U0 BU
                obtain ⟨k9, u, rfl, hk9, hg9, HU, HI, HBU⟩ := hrel
                have hul := HU.out.lt
                by_cases hlt9 : k9 < nl
                · have hL1n := HL1E.out
                  have hL1w : Lists wr rb1 L1 := HL1.out.below HBU.out hrb1
                  have k1 := first_any rb1 k9 L1 wr hL1w (by omega) (by omega)
                  have hf1 := (listed_mem ts ms _ (HP1.out.subset (by simp [List.getD, show k9 < L1.length by omega] : L1.getD k9 (0, 0) ∈ L1)))
                  have km := midnight_any rb1 k9 L1 wr hL1w (by omega) (by omega)
                  have kp : ∀ k8, k9 = k8 + 1 → Calls Try.prog 16 #[.pointer (some ⟨rb1, 0, none⟩), .int .i64 k8] wr fun e w' => (∃ f8 : Nat, f8 ≤ (L1.getD k9 (0, 0)).2 ∧ e = .returned (.int .i64 f8)) ∧ w' = wr := fun k8 e8 =>
                    (first_any rb1 k8 L1 wr hL1w (by omega) (by omega)).mono fun e w' ⟨h1, h2⟩ => ⟨⟨_, by rw [e8]; exact sorted_get L1 HQ1.out k8 (by omega), h1⟩, h2⟩
                  have K1 := hideP k1
                  have KM := hideP km
                  have KP := hideP kp
                  have XK : Hid (L1.getD k9 (0, 0) = ((L1.getD k9 (0, 0)).1, (L1.getD k9 (0, 0)).2)) := rfl
                  obtain ⟨hf1a, hf1b⟩ := hf1
                  clear k1 km kp hL1n hL1w
                  rw [timeV_cells] at KM
                  generalize hx1 : (L1.getD k9 (0, 0)).1 = xm at KM XK
                  generalize hx2 : (L1.getD k9 (0, 0)).2 = f at K1 KP XK hf1a hf1b
                  clear hx1 hx2
                  go_wp2_with fail
                  refine K1.out.mono ?_
                  rintro e w9 ⟨rfl, hw⟩
                  subst w9
                  go_upto_region 39 with fail
                  go_cut [159] (fun s159 wx => s159 = .bool false ∧ wx = wr)
                  case first =>
                    by_cases hk0 : k9 = 0
                    · have hkd : decide ((0 : Int) < (k9 : Int)) = false := decide_eq_false (by omega)
                      go_wp2
                      go_meet
                      case rel => exact ⟨rfl, rfl⟩
                    · obtain ⟨k8, e8⟩ : ∃ k8, k9 = k8 + 1 := ⟨k9 - 1, by omega⟩
                      have c8 := KP.out k8 e8
                      have HC8 := hideP c8
                      have h8 : (0 : Int) < (k9 : Int) := by omega
                      have h8e : (k9 : Int) - 1 = (k8 : Int) := by omega
                      clear c8 e8
                      go_wp2_with fail
                      refine HC8.out.mono ?_
                      rintro e w9 ⟨⟨f8, hf8, rfl⟩, hw⟩
                      subst w9
                      go_wp2
                      go_meet
                      case rel => exact ⟨by first | rfl | (congr 1; exact decide_eq_false (by omega)), rfl⟩
                  case rest =>
                    obtain ⟨rfl, hwc⟩ := hcut
                    subst wc
                    go_wp2_with fail
                    refine KM.out.mono ?_
                    rintro e w11 ⟨rfl, hb11⟩
                    have hs11 := hb11.size
                    have al : ∀ o, Below w11.heap.size w11 (w11.alloc o) := fun o => (Below.refl _ _).alloc (Nat.le_refl _) o
                    have FU := ((HU.out.below hb11 hul).below (al (.cells #[.int .u64 (xm % 1000000000), .int .i64 (xm / 1000000000), .pointer none] 48)) (by omega))
                    have hwr7 := HBU.out.size
                    have FC := ((((RC.out.below HB7.out (by omega)).below HBU.out (by omega)).below hb11 (by omega)).below (al (.cells #[.int .u64 (xm % 1000000000), .int .i64 (xm / 1000000000), .pointer none] 48)) (by omega))
                    have FL := ((((HC1.out.below HB7.out (by omega)).below HBU.out (by omega)).below hb11 (by omega)).below (al (.cells #[.int .u64 (xm % 1000000000), .int .i64 (xm / 1000000000), .pointer none] 48)) (by omega))
                    have FB : Below w7.heap.size w7 (w11.alloc (.cells #[.int .u64 (xm % 1000000000), .int .i64 (xm / 1000000000), .pointer none] 48)) := (HBU.out.trans (hb11.mono hwr7)).trans ((al _).mono (by omega))
                    have x0 : (w11.alloc (.cells #[.int .u64 (xm % 1000000000), .int .i64 (xm / 1000000000), .pointer none] 48)).cell? ⟨w11.heap.size, 0, none⟩ = some (.int .u64 (xm % 1000000000)) := by go_simp
                    have x1 : (w11.alloc (.cells #[.int .u64 (xm % 1000000000), .int .i64 (xm / 1000000000), .pointer none] 48)).cell? ⟨w11.heap.size, 1, none⟩ = some (.int .i64 (xm / 1000000000)) := by go_simp
                    have x2 : (w11.alloc (.cells #[.int .u64 (xm % 1000000000), .int .i64 (xm / 1000000000), .pointer none] 48)).cell? ⟨w11.heap.size, 2, none⟩ = some (.pointer none) := by go_simp
                    have HFU := hideP FU
                    have HFC := hideP FC
                    have HFL := hideP FL
                    have HFB := hideP FB
                    clear FU FC FL FB al hb11
                    go_wp2
                    generalize w11.alloc (.cells #[.int .u64 (xm % 1000000000), .int .i64 (xm / 1000000000), .pointer none] 48) = Wb at HFU HFC HFL HFB x0 x1 x2 ⊢
                    go_loopg [25, 26] ms.length (fun g5 s25 s26 wi => ∃ d : Nat, s26 = .int .i64 d ∧ d ≤ ms.length ∧ ms.length - d ≤ g5 ∧
                      ((s25 = .bool false ∧ Hid (∀ d', d' < d → ¬ (u d' = false ∧ key ts ms d' = (xm, f))) ∧ ∃ q, wi = Wb.drewN q) ∨
                       (s25 = .bool true ∧ ∃ d0 q, d0 < ms.length ∧ Hid (u d0 = false ∧ key ts ms d0 = (xm, f)) ∧ wi = (Wb.drewN q).setCell ⟨w7.heap.size, d0, none⟩ (.bool true))))
                    case atStart => exact ⟨0, rfl, Nat.zero_le _, by omega, Or.inl ⟨rfl, fun d' h => absurd h (Nat.not_lt_zero _), 0, rfl⟩⟩
                    case round =>
                      obtain ⟨d, rfl, hd, hg5, hor⟩ := hrel
                      rcases hor with ⟨rfl, HNO, qd, hwi⟩ | ⟨rfl, d0, qd, hd0, HD0, hwi⟩
                      · subst hwi
                        by_cases hdl : d < ms.length
                        · have cu := HFU.out.done d hdl trivial
                          have zu := HFU.out.free d hdl
                          have cc := HFC.out.done d hdl hdl
                          obtain ⟨l0, l1, l2, l3⟩ := HFL.out d hdl
                          clear l3
                          have KE : Hid (key ts ms d = (ms.getD d 0, before ts (ms.getD d 0))) := rfl
                          generalize before ts (ms.getD d 0) = bv at cc KE
                          generalize ms.getD d 0 = md at l0 l1 KE
                          have hdz : (d : Int) < (ms.length : Int) := by omega
                          have hgd : ∀ (a b : Operand) (W : World), (eqGuard .eql 48 a b (.agg #[.int .u64 (md % 1000000000), .int .i64 (md / 1000000000), .pointer none]) (.agg #[.int .u64 (xm % 1000000000), .int .i64 (xm / 1000000000), .pointer none])).run Try.prog W = .ok () W := fun a b W => guard_time .eql a b _ _ W
                          have NX : Hid (¬ (u d = false ∧ key ts ms d = (xm, f)) → ∀ d', d' < d + 1 → ¬ (u d' = false ∧ key ts ms d' = (xm, f))) := fun hn d' hd' => by
                            by_cases e : d' = d
                            · rw [e]; exact hn
                            · exact HNO.out d' (by omega)
                          cases hu : u d
                          · rw [hu] at cu
                            by_cases hbf : bv = f
                            · have hbe : ((bv : Int) == (f : Int)) = true := by rw [hbf]; simp
                              have HBF := hideP hbf
                              clear hbf
                              by_cases hmx : md = xm
                              · have heq : ∀ W : World, (binOp .eql 48 (.agg #[.int .u64 (md % 1000000000), .int .i64 (md / 1000000000), .pointer none]) (.agg #[.int .u64 (xm % 1000000000), .int .i64 (xm / 1000000000), .pointer none])).run Try.prog W = .ok (.bool true) W := fun W => by
                                  rw [run_eql_time, hmx]; simp
                                have HMX := hideP hmx
                                have HUD := hideP hu
                                clear hmx hu
                                go_wp2_with fail
                                go_quiet (fail)
                                go_wp2
                                go_roundg (ms.length - (d + 1))
                                case rel => exact ⟨d + 1, by go_num, by omega, Nat.le_refl _, Or.inr ⟨rfl, d, qd + nq, hdl, ⟨HUD.out, by rw [KE.out, HMX.out, HBF.out]⟩, rfl⟩⟩
                                case measure => omega
                              · have heq : ∀ W : World, (binOp .eql 48 (.agg #[.int .u64 (md % 1000000000), .int .i64 (md / 1000000000), .pointer none]) (.agg #[.int .u64 (xm % 1000000000), .int .i64 (xm / 1000000000), .pointer none])).run Try.prog W = .ok (.bool false) W := fun W => by
                                  rw [run_eql_time]; rw [show decide (md % 1000000000 = xm % 1000000000 ∧ md / 1000000000 = xm / 1000000000) = false from decide_eq_false (fun h => hmx ((time_eq_iff md xm).1 h))]
                                have HMX := hideP hmx
                                clear hmx hu
                                go_wp2_with fail
                                go_quiet (fail)
                                go_wp2
                                go_roundg (ms.length - (d + 1))
                                case rel => exact ⟨d + 1, by go_num, by omega, Nat.le_refl _, Or.inl ⟨rfl, NX.out (fun h => HMX.out (congrArg Prod.fst (KE.out.symm.trans h.2))), qd + nq, rfl⟩⟩
                                case measure => omega
                            · have hbe : ((bv : Int) == (f : Int)) = false := by simp; omega
                              have HBF := hideP hbf
                              clear hbf hu
                              go_wp2_with fail
                              go_quiet (fail)
                              go_wp2
                              go_roundg (ms.length - (d + 1))
                              case rel => exact ⟨d + 1, by go_num, by omega, Nat.le_refl _, Or.inl ⟨rfl, NX.out (fun h => HBF.out (congrArg Prod.snd (KE.out.symm.trans h.2))), qd + nq, rfl⟩⟩
                              case measure => omega
                          · rw [hu] at cu
                            have HUD := hideP hu
                            clear hu
                            go_wp2_with fail
                            go_quiet (fail)
                            go_wp2
                            go_roundg (ms.length - (d + 1))
                            case rel => exact ⟨d + 1, by go_num, by omega, Nat.le_refl _, Or.inl ⟨rfl, NX.out (fun h => by rw [HUD.out] at h; exact absurd h.1 (by simp)), qd + nq, rfl⟩⟩
                            case measure => omega
                        · exfalso
                          refine inv_find ts ms L1 u k9 HI.out (by have := HL1E.out; omega) HP1.out (fun d' hd' => ?_)
                          rw [XK.out]
                          exact HNO.out d' (by omega)
                      · subst hwi
                        have RN : Hid (Row1 ((Wb.drewN qd).setCell ⟨w7.heap.size, d0, none⟩ (.bool true)) w7.heap.size ms.length (fun i => .bool (decide (i = d0) || u i)) (fun _ => True)) := by
                          refine (((HFU.out.same (W' := Wb.drewN qd) rfl (Nat.le_refl _)).store d0 hd0 (.bool true)).mono (D' := fun _ => True) (fun i _ _ => Or.inr trivial)).congr (fun i _ _ => ?_)
                          by_cases e : i = d0
                          · rw [if_pos e]; simp [e]
                          · rw [if_neg e]; simp [e]
                        have IN : Hid (Inv ts ms L1 (fun i => decide (i = d0) || u i) (k9 + 1)) := inv_step ts ms L1 u k9 d0 HI.out (by have := HL1E.out; omega) hd0 HD0.out.1 (by rw [XK.out]; exact HD0.out.2)
                        have BN : Hid (Below w7.heap.size w7 ((Wb.drewN qd).setCell ⟨w7.heap.size, d0, none⟩ (.bool true))) := (bdN HFB.out qd).setCell (Nat.le_refl _) _
                        by_cases hdl : d < ms.length
                        · have hdz : (d : Int) < (ms.length : Int) := by omega
                          go_wp2
                          go_roundg (nl - (k9 + 1))
                          case rel => exact ⟨k9 + 1, _, by go_num, by omega, Nat.le_refl _, RN, IN, BN⟩
                          case measure => omega
                        · have hdz : decide ((d : Int) < (ms.length : Int)) = false := decide_eq_false (by omega)
                          go_wp2
                          go_roundg (nl - (k9 + 1))
                          case rel => exact ⟨k9 + 1, _, by go_num, by omega, Nat.le_refl _, RN, IN, BN⟩
                          case measure => omega
                · go_wp2
                  go_ret
                  exact ⟨rfl, BF7.out.trans (HBU.out.mono (by have := BF7.out.size; omega))⟩
end Go.Proofs.Qxb6614303a
