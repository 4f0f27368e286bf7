import Derived.Test.Qxb6614303aRow
namespace Go.Proofs.Qxb6614303a
open Go.RowKit Go.Sort
set_option linter.unusedVariables false

theorem info51 : (Try.prog.info? 51).map (fun i => (i.zero, i.size, i.bytes)) = some (some (.agg #[.int .u64 0, .int .i64 0, .pointer none, .string ByteArray.empty]), 4, 40) := by kernel_rfl
theorem info55 : (Try.prog.info? 55).map (fun i => (i.zero, i.size, i.bytes)) = some (some (.agg #[.int .u64 0, .int .i64 0, .pointer none, .float .f64 0]), 4, 32) := by kernel_rfl

def encC (ms : List Int) (ls : List ByteArray) (i : Nat) : List Value := [.int .u64 ((ms.getD i 0) % 1000000000), .int .i64 ((ms.getD i 0) / 1000000000), .pointer none, .string (ls.getD i ByteArray.empty)]
def encS (ts : List Int) (fs : List Nat) (i : Nat) : List Value := [.int .u64 ((ts.getD i 0) % 1000000000), .int .i64 ((ts.getD i 0) / 1000000000), .pointer none, .float .f64 (fs.getD i 0)]

theorem Row4.cal {W : World} {cb : Nat} {ms : List Int} {ls : List ByteArray} (h : Row4 W cb ms.length (encC ms ls) (fun i => i < ms.length)) : Cal W cb ms ls := fun i hi =>
  ⟨h.done i hi hi 0 (by omega), h.done i hi hi 1 (by omega), h.done i hi hi 2 (by omega), h.done i hi hi 3 (by omega)⟩
theorem Row4.samples {W : World} {sb : Nat} {ts : List Int} {fs : List Nat} (h : Row4 W sb ts.length (encS ts fs) (fun i => i < ts.length)) : Samples W sb ts fs := fun i hi =>
  ⟨h.done i hi hi 0 (by omega), h.done i hi hi 1 (by omega), h.done i hi hi 2 (by omega), h.done i hi hi 3 (by omega)⟩

set_option maxHeartbeats 400000 in
theorem series_any (sb n c : Nat) (step : Int) (W : World) :
    Calls Try.prog 21 #[.slice (some ⟨sb, 0, none⟩) n c, .int .i64 step] W fun e w' => e = .returned (.agg #[.slice (some ⟨sb, 0, none⟩) n c, .int .i64 step]) ∧ Below W.heap.size W w' := by
  go_enter Try.func21, Try.ntmps21
  go_wp2
  exact bodyPost_ret (v := .agg #[.slice (some ⟨sb, 0, none⟩) n c, .int .i64 step]) (by simp [results, Try.results21, go_sem]) rfl ⟨rfl, (Below.refl _ _).alloc (Nat.le_refl _) _⟩

set_option maxHeartbeats 1000000 in
theorem make_any (a0 a1 a2 a3 : Option Addr) (c0 c1 c2 c3 : Nat) (ms ts : List Int) (ls : List ByteArray) (fs : List Nat) (step : Int) (w : World)
    (A0 : ArgRow w a0 ms.length (fun i => .int .i64 (ms.getD i 0))) (A1 : ArgRow w a1 ms.length (fun i => .string (ls.getD i ByteArray.empty)))
    (A2 : ArgRow w a2 ts.length (fun i => .int .i64 (ts.getD i 0))) (A3 : ArgRow w a3 ts.length (fun i => .float .f64 (fs.getD i 0)))
    (B0 : ∀ i, -9223372036854775808 ≤ ms.getD i 0 ∧ ms.getD i 0 ≤ 9223372036854775807) (B2 : ∀ i, -9223372036854775808 ≤ ts.getD i 0 ∧ ts.getD i 0 ≤ 9223372036854775807)
    (hm : ms.length ≤ 4096) (ht : ts.length ≤ 4096) :
    Calls Try.prog 12 #[.slice a0 ms.length c0, .slice a1 ms.length c1, .slice a2 ts.length c2, .slice a3 ts.length c3, .int .i64 step] w fun e w' =>
      ∃ sb, e = .returned (.tuple #[.slice (some ⟨w.heap.size + 1, 0, none⟩) ms.length ms.length, .agg #[.slice (some ⟨sb, 0, none⟩) ts.length ts.length, .int .i64 step]]) ∧ Below w.heap.size w w' ∧
        w.heap.size + 1 < w'.heap.size ∧ w.heap.size + 1 < sb ∧ sb < w'.heap.size ∧ Cal w' (w.heap.size + 1) ms ls ∧ Samples w' sb ts fs := by
  have HA0 : Hid _ := A0
  have HA1 : Hid _ := A1
  have HA2 : Hid _ := A2
  have HA3 : Hid _ := A3
  have HB0 : Hid _ := B0
  have HB2 : Hid _ := B2
  clear A0 A1 A2 A3 B0 B2
  obtain ⟨i1, hi, hz0, hz1, hz2⟩ := info_parts info51
  go_enter Try.func12, Try.ntmps12
  go_wp2_with (at_make; refine wpList_make_full _ rfl _ _ 31 rfl (w.heap.size + 1) 51 i1 _ 4 Try.underlying31 hi hz0 hz1 _ _ _ _ ms.length rfl rfl rfl rfl (by rw [hz2]; omega) (by unfold maxLen; omega) (by simp) ?_; intro w1 hown hgr)
  have hsA : (w.alloc (.cells #[.slice none 0 0, .int .i64 0] 35)).heap.size = w.heap.size + 1 := by simp
  rw [hsA] at hown
  have R0 : Hid (Row4 w1 (w.heap.size + 1) ms.length (encC ms ls) (fun _ => False)) := Row4.made hown _
  have BB : Hid (Below (w.heap.size + 1) (w.alloc (.cells #[.slice none 0 0, .int .i64 0] 35)) w1) := (Below.refl _ _).grown hgr (by simp) (fun k hk => by cases hk)
  clear hown hgr hsA
  go_loopw [13] (fun s13 wr => ∃ k : Nat, s13 = .int .i64 k ∧ k ≤ ms.length ∧ Row4 wr (w.heap.size + 1) ms.length (encC ms ls) (fun i => i < k) ∧ Below (w.heap.size + 1) (w.alloc (.cells #[.slice none 0 0, .int .i64 0] 35)) wr) (fun s13 _ => ms.length - (intOf s13).toNat)
  case atStart => exact ⟨0, rfl, Nat.zero_le _, R0.out.mono (fun i _ h => by omega), BB.out⟩
  case round =>
    clear R0 BB
    obtain ⟨k, rfl, hk, hR, hB⟩ := hrel
    have HR : Hid _ := hR
    have HB : Hid _ := hB
    clear hR hB
    by_cases hlt : k < ms.length
    · obtain ⟨b0, o0, ha0, hb0, hc0⟩ := HA0.out k hlt
      obtain ⟨b1, o1, ha1, hb1, hc1⟩ := HA1.out k hlt
      subst ha0 ha1
      have hbw : Below w.heap.size w wr := ((Below.refl _ _).alloc (Nat.le_refl _) _).trans (HB.out.mono (by omega))
      have d0 := (hbw.cell (p := ⟨b0, o0 + k, none⟩) hb0).trans (hc0 k hlt)
      have d1 := (hbw.cell (p := ⟨b1, o1 + k, none⟩) hb1).trans (hc1 k hlt)
      have hn := HB0.out k
      have HF : Hid (encC ms ls k = [.int .u64 ((ms.getD k 0) % 1000000000), .int .i64 ((ms.getD k 0) / 1000000000), .pointer none, .string (ls.getD k ByteArray.empty)]) := rfl
      generalize ms.getD k 0 = m at d0 hn HF
      generalize ls.getD k ByteArray.empty = lb at d1 HF
      obtain ⟨hn1, hn2⟩ := hn
      have hsz := HR.out.lt
      have hsw := hbw.size
      have hd := fun W => durationTime_any m W hn1 hn2
      simp only [timeV_cells] at hd
      have HD : Hid _ := hd
      clear hc0 hc1 hbw hd
      obtain ⟨u0, f0⟩ := HR.out.room (k * 4) (by omega)
      obtain ⟨u1, f1⟩ := HR.out.room (k * 4 + 1) (by omega)
      obtain ⟨u2, f2⟩ := HR.out.room (k * 4 + 2) (by omega)
      obtain ⟨u3, f3⟩ := HR.out.room (k * 4 + 3) (by omega)
      have z0 := HR.out.free (k * 4) (by omega)
      have z1 := HR.out.free (k * 4 + 1) (by omega)
      have z2 := HR.out.free (k * 4 + 2) (by omega)
      have z3 := HR.out.free (k * 4 + 3) (by omega)
      have hkz : (k : Int) < (ms.length : Int) := by omega
      go_wp2_with fail
      go_region_with (go_at_call 20; refine (HD.out _).mono ?_; rintro e w2 ⟨rfl, hb2⟩; have old := fun (b o : Nat) (h : b < wr.heap.size) => hb2.cell (p := ⟨b, o, none⟩) h; have olf := fun (b o : Nat) (h : b < wr.heap.size) => hb2.frozen (p := ⟨b, o, none⟩) h; have e1 := (old b1 (o1 + k) (by omega)).trans d1; have g0 := (old _ (k * 4) hsz).trans f0; have g1 := (old _ (k * 4 + 1) hsz).trans f1; have g2 := (old _ (k * 4 + 2) hsz).trans f2; have g3 := (old _ (k * 4 + 3) hsz).trans f3; have y0 := (olf _ (k * 4) hsz).trans z0; have y1 := (olf _ (k * 4 + 1) hsz).trans z1; have y2 := (olf _ (k * 4 + 2) hsz).trans z2; have y3 := (olf _ (k * 4 + 3) hsz).trans z3; clear old olf)
      all_goals
        have Q2 : Hid _ := hb2
        have R2 : Hid _ := (HR.out.below ((Below.refl wr.heap.size wr).drew.trans hb2) hsz).store k hlt _ _ _ _ HF.out
        clear e1 g0 g1 g2 g3 y0 y1 y2 y3 hb2
        go_wp2
        go_roundw
        case rel => exact ⟨k + 1, by go_num, by omega, R2.out.mono (fun i _ h => by omega), set4_below ((HB.out.drew).trans (Q2.out.mono (by show _ ≤ wr.heap.size; omega))) (Nat.le_refl _) _ _ _ _⟩
        case measure => simp [intOf]; omega
    · have ek : k = ms.length := by omega
      subst ek
      obtain ⟨W0, hW0⟩ : ∃ W0, W0 = wr := ⟨_, rfl⟩
      subst hW0
      have hsz := HR.out.lt
      obtain ⟨i2, hj, hy0, hy1, hy2⟩ := info_parts info55
      clear hi hz0 hz1 hz2
      go_wp2_with (at_make; refine wpList_make_full _ rfl _ _ 32 rfl W0.heap.size 55 i2 _ 4 Try.underlying32 hj hy0 hy1 _ _ _ _ ts.length rfl rfl rfl rfl (by rw [hy2]; omega) (by unfold maxLen; omega) (by simp) ?_; intro w3 hown hgr)
      have R3 : Hid (Row4 w3 W0.heap.size ts.length (encS ts fs) (fun _ => False)) := Row4.made hown _
      have BB : Hid (Below W0.heap.size W0 w3) := (Below.refl _ _).grown hgr (Nat.le_refl _) (fun k hk => by cases hk)
      clear hown hgr
      have hA : Below w.heap.size w W0 := ((Below.refl _ _).alloc (Nat.le_refl _) _).trans (HB.out.mono (by omega))
      have HAw : Hid _ := hA
      clear hA
      go_loopw [15] (fun s15 wr2 => ∃ k : Nat, s15 = .int .i64 k ∧ k ≤ ts.length ∧ Row4 wr2 W0.heap.size ts.length (encS ts fs) (fun i => i < k) ∧ Below W0.heap.size W0 wr2) (fun s15 _ => ts.length - (intOf s15).toNat)
      case atStart => exact ⟨0, rfl, Nat.zero_le _, R3.out.mono (fun i _ h => by omega), BB.out⟩
      case round =>
        clear R3 BB
        obtain ⟨k, rfl, hk2, hR2, hB2⟩ := hrel
        have HR2 : Hid _ := hR2
        have HBB : Hid _ := hB2
        clear hR2 hB2
        have hsw := HAw.out.size
        have hs2 := HBB.out.size
        by_cases hlt : k < ts.length
        · obtain ⟨b0, o0, ha0, hb0, hc0⟩ := HA2.out k hlt
          obtain ⟨b1, o1, ha1, hb1, hc1⟩ := HA3.out k hlt
          subst ha0 ha1
          have hbw : Below w.heap.size w wr := HAw.out.trans (HBB.out.mono hsw)
          have d0 := (hbw.cell (p := ⟨b0, o0 + k, none⟩) hb0).trans (hc0 k hlt)
          have d1 := (hbw.cell (p := ⟨b1, o1 + k, none⟩) hb1).trans (hc1 k hlt)
          have hn := HB2.out k
          have HF : Hid (encS ts fs k = [.int .u64 ((ts.getD k 0) % 1000000000), .int .i64 ((ts.getD k 0) / 1000000000), .pointer none, .float .f64 (fs.getD k 0)]) := rfl
          generalize ts.getD k 0 = m at d0 hn HF
          generalize fs.getD k 0 = lb at d1 HF
          obtain ⟨hn1, hn2⟩ := hn
          have hsz2 := HR2.out.lt
          have hd := fun W => durationTime_any m W hn1 hn2
          simp only [timeV_cells] at hd
          have HD : Hid _ := hd
          clear hc0 hc1 hbw hd hj hy0 hy1 hy2
          obtain ⟨u0, f0⟩ := HR2.out.room (k * 4) (by omega)
          obtain ⟨u1, f1⟩ := HR2.out.room (k * 4 + 1) (by omega)
          obtain ⟨u2, f2⟩ := HR2.out.room (k * 4 + 2) (by omega)
          obtain ⟨u3, f3⟩ := HR2.out.room (k * 4 + 3) (by omega)
          have z0 := HR2.out.free (k * 4) (by omega)
          have z1 := HR2.out.free (k * 4 + 1) (by omega)
          have z2 := HR2.out.free (k * 4 + 2) (by omega)
          have z3 := HR2.out.free (k * 4 + 3) (by omega)
          have hkz : (k : Int) < (ts.length : Int) := by omega
          have hst : ∀ (a : Addr) (m : Mode) (W : World), Sem.run Try.prog (store a (.float .f64 lb) m) W = stored Try.prog W a (.float .f64 lb) m := fun a m W => run_store _ _ _ _ _ rfl
          go_wp2_with fail
          go_region_with (go_at_call 20; refine (HD.out _).mono ?_; rintro e w2 ⟨rfl, hb2⟩; have old := fun (b o : Nat) (h : b < wr.heap.size) => hb2.cell (p := ⟨b, o, none⟩) h; have olf := fun (b o : Nat) (h : b < wr.heap.size) => hb2.frozen (p := ⟨b, o, none⟩) h; have e1 := (old b1 (o1 + k) (by omega)).trans d1; have g0 := (old _ (k * 4) hsz2).trans f0; have g1 := (old _ (k * 4 + 1) hsz2).trans f1; have g2 := (old _ (k * 4 + 2) hsz2).trans f2; have g3 := (old _ (k * 4 + 3) hsz2).trans f3; have y0 := (olf _ (k * 4) hsz2).trans z0; have y1 := (olf _ (k * 4 + 1) hsz2).trans z1; have y2 := (olf _ (k * 4 + 2) hsz2).trans z2; have y3 := (olf _ (k * 4 + 3) hsz2).trans z3; clear old olf)
          all_goals
            have Q2 : Hid _ := hb2
            have R2 : Hid _ := (HR2.out.below ((Below.refl wr.heap.size wr).drew.trans hb2) hsz2).store k hlt _ _ _ _ HF.out
            clear e1 g0 g1 g2 g3 y0 y1 y2 y3 hb2
            go_wp2
            go_roundw
            case rel => exact ⟨k + 1, by go_num, by omega, R2.out.mono (fun i _ h => by omega), set4_below ((HBB.out.drew).trans (Q2.out.mono (by show _ ≤ wr.heap.size; omega))) (Nat.le_refl _) _ _ _ _⟩
            case measure => simp [intOf]; omega
        · have ek : k = ts.length := by omega
          subst ek
          have hsz2 := HR2.out.lt
          have hres := HBB.out.block w.heap.size (by omega)
          have hres2 := HB.out.block w.heap.size (by omega)
          have hc := fun W => series_any W0.heap.size ts.length ts.length step W
          have HCC : Hid _ := hc
          clear hc hj hy0 hy1 hy2
          have q0 : wr.cell? ⟨w.heap.size, 0, none⟩ = some (.slice none 0 0) := by rw [HBB.out.cell (p := ⟨w.heap.size, 0, none⟩) (by show w.heap.size < _; omega), HB.out.cell (p := ⟨w.heap.size, 0, none⟩) (by show w.heap.size < _; omega)]; go_simp
          have q1 : wr.cell? ⟨w.heap.size, 1, none⟩ = some (.int .i64 0) := by rw [HBB.out.cell (p := ⟨w.heap.size, 1, none⟩) (by show w.heap.size < _; omega), HB.out.cell (p := ⟨w.heap.size, 1, none⟩) (by show w.heap.size < _; omega)]; go_simp
          have p0 : wr.frozen? ⟨w.heap.size, 0, none⟩ = false := by rw [HBB.out.frozen (p := ⟨w.heap.size, 0, none⟩) (by show w.heap.size < _; omega), HB.out.frozen (p := ⟨w.heap.size, 0, none⟩) (by show w.heap.size < _; omega)]; go_simp
          have p1 : wr.frozen? ⟨w.heap.size, 1, none⟩ = false := by rw [HBB.out.frozen (p := ⟨w.heap.size, 1, none⟩) (by show w.heap.size < _; omega), HB.out.frozen (p := ⟨w.heap.size, 1, none⟩) (by show w.heap.size < _; omega)]; go_simp
          clear hres hres2
          go_wp2_with fail
          refine (HCC.out _).mono ?_
          rintro e w4 ⟨rfl, hb4⟩
          have q0' := (hb4.cell (p := ⟨w.heap.size, 0, none⟩) (by show w.heap.size < _; omega)).trans q0
          have q1' := (hb4.cell (p := ⟨w.heap.size, 1, none⟩) (by show w.heap.size < _; omega)).trans q1
          have p0' := (hb4.frozen (p := ⟨w.heap.size, 0, none⟩) (by show w.heap.size < _; omega)).trans p0
          have p1' := (hb4.frozen (p := ⟨w.heap.size, 1, none⟩) (by show w.heap.size < _; omega)).trans p1
          have H4 : Hid _ := hb4
          clear hb4 q0 q1 p0 p1
          go_wp2
          have b1 : Below w.heap.size w w4 := (HAw.out.trans (HBB.out.mono hsw)).trans (H4.out.mono (by omega))
          have h4 := H4.out.size
          have same : ∀ (x y : Value) (b : Nat), b ≠ w.heap.size → ((w4.setCell ⟨w.heap.size, 0, none⟩ x).setCell ⟨w.heap.size, 1, none⟩ y).heap[b]? = w4.heap[b]? := fun x y b hb => by
            rw [Below.heap_setCell _ _ _ _ (by exact hb), Below.heap_setCell _ _ _ _ (by exact hb)]
          have ssize : ∀ (x y : Value), ((w4.setCell ⟨w.heap.size, 0, none⟩ x).setCell ⟨w.heap.size, 1, none⟩ y).heap.size = w4.heap.size := fun x y => by simp [World.setCell]
          refine bodyPost_ret (v := .tuple #[.slice (some ⟨w.heap.size + 1, 0, none⟩) ms.length ms.length, .agg #[.slice (some ⟨W0.heap.size, 0, none⟩) ts.length ts.length, .int .i64 step]]) (by simp [results, Try.results12, go_sem, q0', q1']) rfl
            ⟨W0.heap.size, rfl, (b1.setCell (Nat.le_refl _) _).setCell (Nat.le_refl _) _, by rw [ssize]; omega, hsz, by rw [ssize]; omega, ?_, ?_⟩
          · exact Row4.cal ((((HR.out.below HBB.out hsz).below H4.out (by omega)).same (same _ _ _ (by omega)) (by rw [ssize]; exact Nat.le_refl _)))
          · exact Row4.samples ((HR2.out.below H4.out hsz2).same (same _ _ _ (by omega)) (by rw [ssize]; exact Nat.le_refl _))
end Go.Proofs.Qxb6614303a
