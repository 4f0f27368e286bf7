import Derived.Test.Qxb6614303aSmall
import Derived.Test.Qxb6614303aPlain2
import Derived.Deep.DeepCutAuto
import Derived.BigQuiet
import Derived.Deep.QuietTactic
namespace Go.Proofs.Qxb6614303a
open Go.RowKit Go.Sort
set_option linter.unusedVariables false

theorem hideP {p : Prop} (h : p) : Hid p := h

theorem bdN {B : Nat} {a w : World} (h : Below B a w) (n : Nat) : Below B a (w.drewN n) := ⟨h.os, h.tape, h.output, h.size, h.block⟩

def ls2 (n : Nat) (ls : List ByteArray) : List ByteArray := (List.range (2 * n)).map fun i => ls.getD (if i < n then i else 2 * n - 1 - i) ByteArray.empty

theorem ls2_get (n : Nat) (ls : List ByteArray) (i : Nat) (hi : i < 2 * n) : (ls2 n ls).getD i ByteArray.empty = ls.getD (if i < n then i else 2 * n - 1 - i) ByteArray.empty := by
  unfold ls2
  simp [List.getD, hi]

theorem enc_dbl (ms : List Int) (ls : List ByteArray) (i : Nat) (hi : i < 2 * ms.length) : encC (ms ++ ms.reverse) (ls2 ms.length ls) i = encC ms ls (if i < ms.length then i else 2 * ms.length - 1 - i) := by
  unfold encC
  rw [doubled_get ms i hi, ls2_get ms.length ls i hi]

def SortedTo (ts : List Int) (k : Nat) : Prop := ∀ i, i + 1 < k → i + 1 < ts.length → ts.getD i 0 ≤ ts.getD (i + 1) 0

theorem SortedTo.all {ts : List Int} {k : Nat} (h : SortedTo ts k) (hk : ts.length ≤ k) : Sorted ts := by
  intro i j hij hj
  induction j with
  | zero => rw [show i = 0 by omega]; exact Int.le_refl _
  | succ j ih =>
    by_cases e : i = j + 1
    · rw [e]; exact Int.le_refl _
    · exact Int.le_trans (ih (by omega) (by omega)) (h j (by omega) hj)

set_option maxHeartbeats 4000000 in
set_option maxRecDepth 100000 in
theorem twice_walk (a0 a1 a2 a3 : Option Addr) (n1 n3 c0 c1 c2 c3 : Nat) (ms ts : List Int) (ls : List ByteArray) (fs : List Nat) (step : Int) (w : World)
    (A0 : ArgRow w a0 ms.length (fun i => .int .i64 (ms.getD i 0))) (A1 : ArgRow w a1 n1 (fun i => .string (ls.getD i ByteArray.empty)))
    (A2 : ArgRow w a2 ts.length (fun i => .int .i64 (ts.getD i 0))) (A3 : ArgRow w a3 n3 (fun i => .float .f64 (fs.getD i 0)))
    (B0 : ∀ i, -9223372036854775808 ≤ ms.getD i 0 ∧ ms.getD i 0 ≤ 9223372036854775807) (B2 : ∀ i, -9223372036854775808 ≤ ts.getD i 0 ∧ ts.getD i 0 ≤ 9223372036854775807)
    (h0 : ms.length ≤ maxLen) (h1 : n1 ≤ maxLen) (h2 : ts.length ≤ maxLen) (h3 : n3 ≤ maxLen) (s0 : ms.length ≤ 4096) (s1 : n1 ≤ 4096) (s2 : ts.length ≤ 4096) (s3 : n3 ≤ 4096) (e1 : n1 = ms.length) (e3 : n3 = ts.length) :
    Calls Try.prog 6 #[.slice a0 ms.length c0, .slice a1 n1 c1, .slice a2 ts.length c2, .slice a3 n3 c3, .int .i64 step] w fun e w' => e = .returned (.bool true) ∧ Below w.heap.size w w' := by
  subst e1 e3
  have hbytes := bytes18_any a0 a1 a2 a3 ms.length ms.length ts.length ts.length c0 c1 c2 c3 ls step w A1 h0 h1 h2 h3
  have HB := hideP hbytes
  have HA0 := hideP A0
  have HA1 := hideP A1
  have HA2 := hideP A2
  have HA3 := hideP A3
  have HB0 := hideP B0
  have HB2 := hideP B2
  clear A0 A1 A2 A3 B0 B2 hbytes h0 h1 h2 h3
  go_enter Try.func6, Try.ntmps6
  go_wp2_with fail
  refine HB.out.mono ?_
  rintro e w1 ⟨⟨b, rfl⟩, hw⟩
  subst w1
  cases b
  · go_wp2
    go_ret
    exact ⟨rfl, Below.refl _ _⟩
  go_wp2
  go_loop [11, 12] (fun z i => ∃ (k : Nat) (x : Int), k ≤ ms.length ∧ i = .int .i64 k ∧ z = .int .i64 x) (fun _ i => ms.length - (intOf i).toNat)
  case atStart => exact ⟨0, _, Nat.zero_le _, rfl, rfl⟩
  case round =>
    obtain ⟨k, x, hk, rfl, rfl⟩ := hrel
    by_cases hlt : k < ms.length
    · obtain ⟨b1, o1, ha1, hb1, hc1⟩ := HA1.out k hlt
      subst ha1
      have d1 : w.cell? ⟨b1, o1 + k, none⟩ = some (.string (ls.getD k ByteArray.empty)) := hc1 k hlt
      generalize ls.getD k ByteArray.empty = lb at d1
      clear hc1
      have hkz : (k : Int) < (ms.length : Int) := by omega
      go_wp2
      · go_ret; exact ⟨rfl, Below.refl _ _⟩
      go_round
      case rel => exact ⟨k + 1, _, by omega, by go_num, rfl⟩
      case measure => simp [intOf]; omega
    · go_wp2
      go_loopw [13] (fun s13 wr => ∃ k q : Nat, s13 = .int .i64 (k + 1) ∧ (k + 1 ≤ ts.length ∨ k = 0) ∧ SortedTo ts (k + 1) ∧ wr = w.drewN q) (fun s13 _ => ts.length - (intOf s13).toNat)
      case atStart => exact ⟨0, 0, rfl, Or.inr rfl, fun i hi => by omega, rfl⟩
      case round =>
        obtain ⟨k, q, rfl, hkk, hso, hwr⟩ := hrel
        have HSO := hideP hso
        clear hso
        subst hwr
        by_cases hlt2 : k + 1 < ts.length
        · obtain ⟨b2, o2, ha2, hb2, hc2⟩ := HA2.out k (by omega)
          subst ha2
          have d0 : w.cell? ⟨b2, o2 + k, none⟩ = some (.int .i64 (ts.getD k 0)) := hc2 k (by omega)
          have d1 : w.cell? ⟨b2, o2 + (k + 1), none⟩ = some (.int .i64 (ts.getD (k + 1) 0)) := hc2 (k + 1) hlt2
          clear hc2
          generalize hx0 : ts.getD k 0 = x0 at d0
          generalize hx1 : ts.getD (k + 1) 0 = x1 at d1
          have X := hideP (And.intro hx0 hx1)
          clear hx0 hx1
          have hkz : (k : Int) + 1 < (ts.length : Int) := by omega
          have hkz2 : (k : Int) < (ts.length : Int) := by omega
          by_cases hx : x1 < x0
          · go_wp2_with fail
            go_quiet (fail)
            go_wp2
            go_ret
            exact ⟨rfl, bdN (bdN (Below.refl _ _) _) _⟩
          · go_wp2_with fail
            go_quiet (fail)
            go_wp2
            go_roundw
            case rel => exact ⟨k + 1, q + nq, by go_num, Or.inl (by omega), fun i h1 h2 => by
                by_cases e : i = k
                · subst e; rw [X.out.1, X.out.2]; omega
                · exact HSO.out i (by omega) h2, rfl⟩
            case measure => simp [intOf]; omega
        · have hso : Sorted ts := HSO.out.all (by omega)
          have HSS := hideP hso
          have hbw : Below w.heap.size w (w.drewN q) := bdN (Below.refl _ _) q
          have hmk := make_any a0 a1 a2 a3 c0 c1 c2 c3 ms ts ls fs step (w.drewN q) (HA0.out.below hbw rfl) (HA1.out.below hbw rfl) (HA2.out.below hbw rfl) (HA3.out.below hbw rfl) HB0.out HB2.out (by omega) (by omega)
          have HMK := hideP hmk
          clear hso hmk hbw
          go_wp2_with fail
          refine HMK.out.mono ?_
          rintro e w1 ⟨sb, rfl, hm1, hm2, hm3, hm4, hm5, hm6⟩
          simp only [World.heap_drewN] at hm1 hm2 hm3
          have M1 := hideP hm1
          have M5 := hideP hm5
          have M6 := hideP hm6
          have BW1 : Hid (Below w.heap.size w w1) := (bdN (Below.refl _ _) q).trans hm1
          clear hm1 hm5 hm6
          obtain ⟨i1, hi, hz0, hz1, hz2⟩ := info_parts info51
          go_wp2_with (at_make; refine wpList_make_full _ rfl _ _ 31 rfl (w1.heap.size + 1) 51 i1 _ 4 Try.underlying31 hi hz0 hz1 _ _ _ _ (2 * ms.length) rfl rfl (by omega) (by omega) (by rw [hz2]; omega) (by unfold maxLen; omega) (by simp) ?_; intro w3 hown hgr)
          have hsA : (w1.alloc (.cells #[.slice (some ⟨sb, 0, none⟩) ts.length ts.length, .int .i64 step] 35)).heap.size = w1.heap.size + 1 := by simp
          rw [hsA] at hown
          have R0 : Hid (Row4 w3 (w1.heap.size + 1) (2 * ms.length) (encC (ms ++ ms.reverse) (ls2 ms.length ls)) (fun _ => False)) := Row4.made hown _
          have BB : Hid (Below (w1.heap.size + 1) (w1.alloc (.cells #[.slice (some ⟨sb, 0, none⟩) ts.length ts.length, .int .i64 step] 35)) w3) := (Below.refl _ _).grown hgr (by simp) (fun k hk => by cases hk)
          clear hown hgr hsA hi hz0 hz1 hz2
          go_loopw [17] (fun s17 wr => ∃ k : Nat, s17 = .int .i64 k ∧ k ≤ ms.length ∧ Row4 wr (w1.heap.size + 1) (2 * ms.length) (encC (ms ++ ms.reverse) (ls2 ms.length ls)) (fun i => i < k ∨ 2 * ms.length - 1 - k < i) ∧ Below (w1.heap.size + 1) (w1.alloc (.cells #[.slice (some ⟨sb, 0, none⟩) ts.length ts.length, .int .i64 step] 35)) wr) (fun s17 _ => ms.length - (intOf s17).toNat)
          case atStart => exact ⟨0, rfl, Nat.zero_le _, R0.out.mono (fun i _ h => by omega), BB.out⟩
          case round =>
            clear R0 BB
            obtain ⟨k, rfl, hk3, hR, hB⟩ := hrel
            have HR := hideP hR
            have HB' := hideP hB
            clear hR hB
            have hrl := HR.out.lt
            by_cases hlt3 : k < ms.length
            · obtain ⟨g0, g1, g2, g3⟩ := M5.out k hlt3
              have bc : Below w1.heap.size w1 wr := ((Below.refl _ _).alloc (Nat.le_refl _) _).trans (HB'.out.mono (by omega))
              have BC := hideP bc
              have d0 := (bc.cell (p := ⟨w.heap.size + 1, k * 4, none⟩) hm2).trans g0
              have d1 := (bc.cell (p := ⟨w.heap.size + 1, k * 4 + 1, none⟩) hm2).trans g1
              have d2 := (bc.cell (p := ⟨w.heap.size + 1, k * 4 + 2, none⟩) hm2).trans g2
              have d3 := (bc.cell (p := ⟨w.heap.size + 1, k * 4 + 3, none⟩) hm2).trans g3
              clear g0 g1 g2 g3 bc
              have EN : Hid (encC ms ls k = [.int .u64 ((ms.getD k 0) % 1000000000), .int .i64 ((ms.getD k 0) / 1000000000), .pointer none, .string (ls.getD k ByteArray.empty)]) := rfl
              generalize (ms.getD k 0) % 1000000000 = y0 at d0 EN
              generalize (ms.getD k 0) / 1000000000 = y1 at d1 EN
              generalize ls.getD k ByteArray.empty = y3 at d3 EN
              obtain ⟨u0, f0⟩ := HR.out.room (k * 4) (by omega)
              obtain ⟨u1, f1⟩ := HR.out.room (k * 4 + 1) (by omega)
              obtain ⟨u2, f2⟩ := HR.out.room (k * 4 + 2) (by omega)
              obtain ⟨u3, f3⟩ := HR.out.room (k * 4 + 3) (by omega)
              have z0 := HR.out.free (k * 4) (by omega)
              have z1 := HR.out.free (k * 4 + 1) (by omega)
              have z2 := HR.out.free (k * 4 + 2) (by omega)
              have z3 := HR.out.free (k * 4 + 3) (by omega)
              have hkz : (k : Int) < (ms.length : Int) := by omega
              have hkz2 : (k : Int) < 2 * (ms.length : Int) := by omega
              go_upto_region 25 with fail
              change Code.wp _ _ _ _ (set4 wr (w1.heap.size + 1) (k * 4) (.int .u64 y0) (.int .i64 y1) (.pointer none) (.string y3))
              have R1 := HR.out.store k (by omega) (.int .u64 y0) (.int .i64 y1) (.pointer none) (.string y3) (by rw [enc_dbl ms ls k (by omega), if_pos hlt3]; exact EN.out)
              have B1 := set4_below HB'.out (Nat.le_refl (w1.heap.size + 1)) (o := k * 4) (.int .u64 y0) (.int .i64 y1) (.pointer none) (.string y3)
              have bc : Below w1.heap.size w1 (set4 wr (w1.heap.size + 1) (k * 4) (.int .u64 y0) (.int .i64 y1) (.pointer none) (.string y3)) := set4_below BC.out (by omega) _ _ _ _
              have BCO := hideP (fun o => (bc.cell (p := ⟨w.heap.size + 1, o, none⟩) hm2).trans (BC.out.cell (p := ⟨w.heap.size + 1, o, none⟩) hm2).symm)
              clear f0 f1 f2 f3 z0 z1 z2 z3 bc
              generalize set4 wr (w1.heap.size + 1) (k * 4) (.int .u64 y0) (.int .i64 y1) (.pointer none) (.string y3) = W5 at R1 B1 BCO ⊢
              replace d0 := (BCO.out _).trans d0
              replace d1 := (BCO.out _).trans d1
              replace d2 := (BCO.out _).trans d2
              replace d3 := (BCO.out _).trans d3
              have HR1 := hideP R1
              have HB1 := hideP B1
              clear R1 B1
              obtain ⟨j, hj⟩ : ∃ j : Nat, j = 2 * ms.length - 1 - k := ⟨_, rfl⟩
              have hjz : 2 * (ms.length : Int) - 1 - (k : Int) = (j : Int) := by omega
              have hjl : j < 2 * ms.length := by omega
              have HJ := hideP hj
              have EN2 : Hid (encC (ms ++ ms.reverse) (ls2 ms.length ls) j = [.int .u64 y0, .int .i64 y1, .pointer none, .string y3]) := by
                show _ = _
                rw [enc_dbl ms ls j (by omega), if_neg (by omega), show 2 * ms.length - 1 - j = k by omega]; exact EN.out
              clear hj
              have hjz2 : (j : Int) < 2 * (ms.length : Int) := by omega
              obtain ⟨u0, f0⟩ := HR1.out.room (j * 4) (by omega)
              obtain ⟨u1, f1⟩ := HR1.out.room (j * 4 + 1) (by omega)
              obtain ⟨u2, f2⟩ := HR1.out.room (j * 4 + 2) (by omega)
              obtain ⟨u3, f3⟩ := HR1.out.room (j * 4 + 3) (by omega)
              have z0 := HR1.out.free (j * 4) (by omega)
              have z1 := HR1.out.free (j * 4 + 1) (by omega)
              have z2 := HR1.out.free (j * 4 + 2) (by omega)
              have z3 := HR1.out.free (j * 4 + 3) (by omega)
              go_wp2
              go_roundw
              case rel =>
                refine ⟨k + 1, by go_num, by omega, ?_, set4_below HB1.out (Nat.le_refl _) _ _ _ _⟩
                refine (HR1.out.store j hjl _ _ _ _ EN2.out).mono (fun i hi h => ?_)
                have := HJ.out
                omega
              case measure => simp [intOf]; omega
            · have RD := HR.out.mono (D' := fun i => i < 2 * ms.length) (fun i _ h => by omega)
              have HRD := hideP RD
              clear RD
              obtain ⟨W6, hW6⟩ : ∃ W6, W6 = wr := ⟨_, rfl⟩
              subst hW6
              have bw6 : Below w.heap.size w W6 := BW1.out.trans ((((Below.refl _ _).alloc (Nat.le_refl _) _).trans (HB'.out.mono (by omega))).mono (by have := BW1.out.size; omega))
              have HBW6 := hideP bw6
              clear bw6
              go_upto_if 133 with fail
              go_cut [18, 19] (fun s18 s19 wx => s18 = .int .i64 ((listed ts ms).length : Nat) ∧ ∃ q6, wx = W6.drewN q6)
              case first =>
                by_cases hz : ts.length = 0
                · have hzz : ((ts.length : Nat) : Int) = 0 := by omega
                  have en : listed ts ms = [] := by rw [List.eq_nil_of_length_eq_zero hz]; exact listed_nil ms
                  have HEN := hideP en
                  clear en
                  go_wp2
                  go_meet
                  case rel => exact ⟨by rw [HEN.out]; rfl, 0, rfl⟩
                · have hpos : 0 < ts.length := by omega
                  have hposz : (0 : Int) < (ts.length : Int) := by omega
                  obtain ⟨b2, o2, ha2, hb2, hc2⟩ := HA2.out 0 hpos
                  subst ha2
                  have t0 : W6.cell? ⟨b2, o2, none⟩ = some (.int .i64 (ts.getD 0 0)) := (HBW6.out.cell (p := ⟨b2, o2, none⟩) hb2).trans (hc2 0 hpos)
                  clear hc2
                  generalize hx0 : ts.getD 0 0 = x0 at t0
                  have X0 := hideP hx0
                  clear hx0
                  rw [show decide (0 < ts.length) = true from decide_eq_true hpos]
                  go_wp2
                  go_loopg [18, 19] ms.length (fun g4 s18 s19 wr => ∃ k q : Nat, s18 = .int .i64 (wanted ts ms k : Nat) ∧ s19 = .int .i64 k ∧ k ≤ ms.length ∧ ms.length - k ≤ g4 ∧ wr = W6.drewN q)
                  case atStart => exact ⟨0, 0, rfl, rfl, Nat.zero_le _, by omega, rfl⟩
                  case round =>
                    obtain ⟨k4, q4, rfl, rfl, hk4, hg4, hwr⟩ := hrel
                    subst hwr
                    have wle := wanted_le ts ms k4
                    by_cases hlt4 : k4 < ms.length
                    · obtain ⟨b0, o0, ha0, hb0, hc0⟩ := HA0.out k4 hlt4
                      subst ha0
                      have m0 : W6.cell? ⟨b0, o0 + k4, none⟩ = some (.int .i64 (ms.getD k4 0)) := (HBW6.out.cell (p := ⟨b0, o0 + k4, none⟩) hb0).trans (hc0 k4 hlt4)
                      clear hc0
                      have ws := wanted_succ ts ms k4 hlt4
                      rw [X0.out] at ws
                      have WS := hideP ws
                      clear ws
                      generalize ms.getD k4 0 = m4 at m0 WS
                      generalize wanted ts ms k4 = wv at wle WS
                      have hkz : (k4 : Int) < (ms.length : Int) := by omega
                      by_cases hx : x0 < m4
                      · go_wp2_with fail
                        go_quiet (fail)
                        go_wp2
                        go_roundg (ms.length - (k4 + 1))
                        case rel => exact ⟨k4 + 1, q4 + nq, by rw [WS.out, if_pos (by omega)]; go_num, by go_num, by omega, Nat.le_refl _, rfl⟩
                        case measure => omega
                      · go_wp2_with fail
                        go_quiet (fail)
                        go_wp2
                        go_roundg (ms.length - (k4 + 1))
                        case rel => exact ⟨k4 + 1, q4 + nq, by rw [WS.out, if_neg (by omega)]; go_num, by go_num, by omega, Nat.le_refl _, rfl⟩
                        case measure => omega
                    · have ek : k4 = ms.length := by omega
                      have LL := hideP (listed_length ts ms HSS.out hpos)
                      have EK := hideP ek
                      clear ek
                      go_wp2
                      go_meet
                      case rel => exact ⟨by rw [LL.out, ← EK.out], q4, rfl⟩
              case rest =>
                obtain ⟨rfl, q6, hwc⟩ := hcut
                subst hwc
                have hC1 : Cal (W6.drewN q6) (w.heap.size + 1) ms ls := M5.out.below (bdN (((Below.refl _ _).alloc (Nat.le_refl _) _).trans (HB'.out.mono (by omega))) q6) hm2
                have hS1 : Samples (W6.drewN q6) sb ts fs := M6.out.below (bdN (((Below.refl _ _).alloc (Nat.le_refl _) _).trans (HB'.out.mono (by omega))) q6) hm4
                have hC2 : Cal (W6.drewN q6) (w1.heap.size + 1) (ms ++ ms.reverse) (ls2 ms.length ls) := Row4.cal (by rw [show (ms ++ ms.reverse).length = 2 * ms.length by simp; omega]; exact HRD.out.same rfl (Nat.le_refl _))
                have hsz6 : (W6.drewN q6).heap.size = W6.heap.size := rfl
                have hr1 := zzreading_any (w.heap.size + 1) ms.length sb ts.length ms ls ts fs step (W6.drewN q6) hC1 hS1 (by rw [hsz6]; omega) (by rw [hsz6]; omega) (by omega) (by omega) HSS.out
                have HR1 := hideP hr1
                have HC2 := hideP hC2
                have HS1 := hideP hS1
                have hser0 : W6.cell? ⟨w1.heap.size, 0, none⟩ = some (.slice (some ⟨sb, 0, none⟩) ts.length ts.length) := by rw [HB'.out.cell (p := ⟨w1.heap.size, 0, none⟩) (by show w1.heap.size < _; omega)]; go_simp
                have hser1 : W6.cell? ⟨w1.heap.size, 1, none⟩ = some (.int .i64 step) := by rw [HB'.out.cell (p := ⟨w1.heap.size, 1, none⟩) (by show w1.heap.size < _; omega)]; go_simp
                clear hr1 hC1 hC2 hS1
                generalize hlen : (listed ts ms).length = nl
                have HLEN := hideP hlen
                clear hlen
                go_wp2_with fail
                refine HR1.out.mono ?_
                rintro e w7 ⟨rb1, rfl, hb7, hrb1, L1, hp1, hq1, hL1⟩
                simp only [hsz6] at hb7
                have HB7 := hideP hb7
                have HP1 := hideP hp1
                have HQ1 := hideP hq1
                have HL1 := hideP hL1
                have hs7 : W6.heap.size ≤ w7.heap.size := hb7.size
                have ser0 := (hb7.cell (p := ⟨w1.heap.size, 0, none⟩) (by show w1.heap.size < W6.heap.size; omega)).trans hser0
                have ser1 := (hb7.cell (p := ⟨w1.heap.size, 1, none⟩) (by show w1.heap.size < W6.heap.size; omega)).trans hser1
                have hr2 := zzreading_any (w1.heap.size + 1) (2 * ms.length) sb ts.length (ms ++ ms.reverse) (ls2 ms.length ls) ts fs step w7 (HC2.out.below hb7 hrl) (HS1.out.below hb7 (by omega)) (by omega) (by omega) (by simp; omega) (by omega) HSS.out
                rw [show (ms ++ ms.reverse).length = 2 * ms.length by simp; omega] at hr2
                have HR2 := hideP hr2
                clear hb7 hp1 hq1 hL1 hr2 hser0 hser1 hsz6
                go_wp2_with fail
                refine HR2.out.mono ?_
                rintro e w8 ⟨rb2, rfl, hb8, hrb2, L2, hp2, hq2, hL2⟩
                have HL1' := hideP (HL1.out.below hb8 hrb1)
                have HL2 := hideP hL2
                obtain ⟨tl, tw⟩ := twice_plain ts ms L1 L2 HP1.out HQ1.out hp2 hq2
                have hl1 : L1.length = nl := by rw [HP1.out.length_eq, HLEN.out]
                have HTW := hideP tw
                have BF : Hid (Below w.heap.size w w8) := (bdN HBW6.out q6).trans ((HB7.out.mono (by have := HBW6.out.size; omega)).trans (hb8.mono (by have := HBW6.out.size; omega)))
                have hn1 : nl ≤ 4096 := by have := listed_le ts ms; have := HLEN.out; omega
                have hln1 := hideP (len_any rb1 L1 w8 HL1'.out)
                have hln2 := hideP (len_any rb2 L2 w8 HL2.out)
                rw [tl, hl1] at hln2
                rw [hl1] at hln1
                have HL1E := hideP hl1
                have HTL := hideP tl
                clear hb8 hp2 hq2 hL2 tl tw hl1
                go_wp2_with fail
                refine hln1.out.mono ?_
                rintro e w9 ⟨rfl, hw⟩
                subst w9
                have hq2 : ((nl : Int) != (nl : Int)) = false := by simp
                go_wp2_with fail
                refine hln2.out.mono ?_
                rintro e w9 ⟨rfl, hw⟩
                subst w9
                go_wp2
                go_loop [23, 24] (fun s23 s24 => ∃ k : Nat, s23 = .int .i64 k ∧ k ≤ nl) (fun s23 _ => nl - (intOf s23).toNat)
                case atStart => exact ⟨0, rfl, Nat.zero_le _⟩
                case round =>
                  obtain ⟨k9, rfl, hk9⟩ := hrel
                  by_cases hlt9 : k9 < nl
                  · have hL1n := HL1E.out
                    have hL2n := HTL.out
                    obtain ⟨v1, v2, v3, v4⟩ := HTW.out k9 (by omega)
                    have k1 := first_any rb1 k9 L1 w8 HL1'.out (by omega) (by omega)
                    have k2 := first_any rb2 (2 * k9) L2 w8 HL2.out (by omega) (by omega)
                    have k3 := first_any rb2 (2 * k9 + 1) L2 w8 HL2.out (by omega) (by omega)
                    rw [v3, show ((2 * k9 : Nat) : Int) = 2 * (k9 : Int) by omega] at k2
                    rw [v4, show ((2 * k9 + 1 : Nat) : Int) = 2 * (k9 : Int) + 1 by omega] at k3
                    have K1 := hideP k1
                    have K2 := hideP k2
                    have K3 := hideP k3
                    clear k1 k2 k3 v3 v4 hL1n hL2n
                    generalize (L1.getD k9 (0, 0)).2 = f at v1 v2 K1 K2 K3
                    have hfz : ((f : Int) != (f : Int)) = false := by simp
                    go_wp2_with fail
                    refine K1.out.mono ?_
                    rintro e w9 ⟨rfl, hw⟩
                    subst w9
                    go_wp2_with fail
                    refine K2.out.mono ?_
                    rintro e w9 ⟨rfl, hw⟩
                    subst w9
                    go_wp2_with fail
                    refine K3.out.mono ?_
                    rintro e w9 ⟨rfl, hw⟩
                    subst w9
                    go_wp2
                    go_round
                    case rel => exact ⟨k9 + 1, by go_num, by omega⟩
                    case measure => simp [intOf]; omega
                  · go_wp2
                    go_ret
                    exact ⟨rfl, BF.out⟩
end Go.Proofs.Qxb6614303a
