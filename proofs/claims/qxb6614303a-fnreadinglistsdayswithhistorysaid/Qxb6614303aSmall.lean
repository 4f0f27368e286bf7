import Derived.Test.Qxb6614303aMake
import Derived.Test.Qxb6614303aSort
namespace Go.Proofs.Qxb6614303a
open Go.RowKit Go.Sort
set_option linter.unusedVariables false

theorem Cal.below {W W' : World} {B cb : Nat} {ms : List Int} {ls : List ByteArray} (h : Cal W cb ms ls) (hb : Below B W W') (hB : cb < B) : Cal W' cb ms ls := fun i hi => by
  obtain ⟨h0, h1, h2, h3⟩ := h i hi
  exact ⟨(hb.cell (p := ⟨cb, _, none⟩) hB).trans h0, (hb.cell (p := ⟨cb, _, none⟩) hB).trans h1, (hb.cell (p := ⟨cb, _, none⟩) hB).trans h2, (hb.cell (p := ⟨cb, _, none⟩) hB).trans h3⟩
theorem Samples.below {W W' : World} {B cb : Nat} {ms : List Int} {ls : List Nat} (h : Samples W cb ms ls) (hb : Below B W W') (hB : cb < B) : Samples W' cb ms ls := fun i hi => by
  obtain ⟨h0, h1, h2, h3⟩ := h i hi
  exact ⟨(hb.cell (p := ⟨cb, _, none⟩) hB).trans h0, (hb.cell (p := ⟨cb, _, none⟩) hB).trans h1, (hb.cell (p := ⟨cb, _, none⟩) hB).trans h2, (hb.cell (p := ⟨cb, _, none⟩) hB).trans h3⟩
theorem Lists.below {W W' : World} {rb : Nat} {L : List (Int × Nat)} (h : Lists W rb L) (hb : Below W.heap.size W W') (hB : rb < W.heap.size) : Lists W' rb L := by
  obtain ⟨p, cap, h1, h2⟩ := h
  refine ⟨p, cap, (hb.cell (p := ⟨rb, 3, none⟩) hB).trans h1, fun hl => ?_⟩
  obtain ⟨g, hp, hg, hc⟩ := h2 hl
  exact ⟨g, hp, by have := hb.size; omega, fun i hi c hc' => (hb.cell (p := ⟨g, _, none⟩) hg).trans (hc i hi c hc')⟩

set_option maxHeartbeats 400000 in
theorem zzreading_any (cb ccap sb scap : Nat) (ms : List Int) (ls : List ByteArray) (ts : List Int) (fs : List Nat) (step : Int) (w : World)
    (hC : Cal w cb ms ls) (hS : Samples w sb ts fs) (hcb : cb < w.heap.size) (hsb : sb < w.heap.size) (hm : ms.length ≤ 100000) (ht : ts.length ≤ 100000) (hso : Sorted ts) :
    Calls Try.prog 14 #[.slice (some ⟨cb, 0, none⟩) ms.length ccap, .agg #[.slice (some ⟨sb, 0, none⟩) ts.length scap, .int .i64 step]] w fun e w' =>
      ∃ rb, e = .returned (.pointer (some ⟨rb, 0, none⟩)) ∧ Below w.heap.size w w' ∧ rb < w'.heap.size ∧ ∃ L' : List (Int × Nat), L'.Perm (listed ts ms) ∧ L'.Pairwise (fun a b => a.2 ≤ b.2) ∧ Lists w' rb L' := by
  have hb : ∀ o, Below w.heap.size w (w.alloc o) := fun o => (Below.refl _ _).alloc (Nat.le_refl _) o
  have hc := fun o => reading_any cb ccap sb scap ms ls ts fs step (w.alloc o) (hC.below (hb o) hcb) (hS.below (hb o) hsb) (by simp; omega) (by simp; omega) hm ht hso sortSays
  have HC : Hid _ := hc
  have HB : Hid _ := hb
  clear hc hC hS hb
  go_enter Try.func14, Try.ntmps14
  go_wp2_with fail
  refine (HC.out _).mono ?_
  rintro e w1 ⟨rfl, h1, h2, h3⟩
  have H1 : Hid _ := h1
  have H2 : Hid _ := h2
  have H3 : Hid _ := h3
  clear h1 h2 h3
  go_wp2
  go_ret
  exact ⟨_, rfl, (HB.out _).trans (H1.out.mono (by simp)), by have := H2.out; simp at this; omega, by have h := H3.out; simpa using h⟩

set_option maxHeartbeats 400000 in
theorem len_any (rb : Nat) (L : List (Int × Nat)) (w : World) (h : Lists w rb L) :
    Calls Try.prog 15 #[.pointer (some ⟨rb, 0, none⟩)] w fun e w' => e = .returned (.int .i64 L.length) ∧ w' = w := by
  obtain ⟨p, cap, h1, _⟩ := h
  go_enter Try.func15, Try.ntmps15
  go_wp2
  go_ret
  exact ⟨rfl, rfl⟩

set_option maxHeartbeats 400000 in
theorem first_any (rb k : Nat) (L : List (Int × Nat)) (w : World) (h : Lists w rb L) (hk : k < L.length) (hL : L.length ≤ 100000) :
    Calls Try.prog 16 #[.pointer (some ⟨rb, 0, none⟩), .int .i64 k] w fun e w' => e = .returned (.int .i64 (L.getD k (0, 0)).2) ∧ w' = w := by
  obtain ⟨p, cap, h1, h2⟩ := h
  obtain ⟨g, rfl, hg, hc⟩ := h2 (by omega)
  have c3 : w.cell? ⟨g, k * 4 + 3, none⟩ = some (.int .i64 (L.getD k (0, 0)).2) := hc k hk 3 (by omega)
  generalize (L.getD k (0, 0)).2 = r at *
  clear hc h2
  have hkz : (k : Int) < (L.length : Int) := by omega
  go_enter Try.func16, Try.ntmps16
  go_wp2
  go_ret
  exact ⟨rfl, rfl⟩

set_option maxHeartbeats 400000 in
theorem midnight_any (rb k : Nat) (L : List (Int × Nat)) (w : World) (h : Lists w rb L) (hk : k < L.length) (hL : L.length ≤ 100000) :
    Calls Try.prog 17 #[.pointer (some ⟨rb, 0, none⟩), .int .i64 k] w fun e w' => e = .returned (timeV (L.getD k (0, 0)).1) ∧ Below w.heap.size w w' := by
  obtain ⟨p, cap, h1, h2⟩ := h
  obtain ⟨g, rfl, hg, hc⟩ := h2 (by omega)
  have c0 : w.cell? ⟨g, k * 4, none⟩ = some (.int .u64 ((L.getD k (0, 0)).1 % 1000000000)) := hc k hk 0 (by omega)
  have c1 : w.cell? ⟨g, k * 4 + 1, none⟩ = some (.int .i64 ((L.getD k (0, 0)).1 / 1000000000)) := hc k hk 1 (by omega)
  have c2 : w.cell? ⟨g, k * 4 + 2, none⟩ = some (.pointer none) := hc k hk 2 (by omega)
  have hrb : rb < w.heap.size := World.block_lt_of_cell? w _ h1
  rw [timeV_cells]
  generalize (L.getD k (0, 0)).1 % 1000000000 = r at *
  generalize (L.getD k (0, 0)).1 / 1000000000 = q at *
  clear hc h2
  have hkz : (k : Int) < (L.length : Int) := by omega
  go_enter Try.func17, Try.ntmps17
  go_wp2
  exact bodyPost_ret (v := .agg #[.int .u64 r, .int .i64 q, .pointer none]) (by simp [results, Try.results17, go_sem]) rfl ⟨rfl, (Below.refl _ _).alloc (Nat.le_refl _) _⟩

/-- The call came back with a bool. -/
def IsBool (e : Ending) : Prop := ∃ b, e = .returned (.bool b)

set_option maxHeartbeats 1000000 in
theorem bytes18_any (a0 a1 a2 a3 : Option Addr) (n0 n1 n2 n3 c0 c1 c2 c3 : Nat) (ls : List ByteArray) (step : Int) (w : World)
    (A1 : ArgRow w a1 n1 (fun i => .string (ls.getD i ByteArray.empty))) (h0 : n0 ≤ maxLen) (h1 : n1 ≤ maxLen) (h2 : n2 ≤ maxLen) (h3 : n3 ≤ maxLen) :
    Calls Try.prog 18 #[.slice a0 n0 c0, .slice a1 n1 c1, .slice a2 n2 c2, .slice a3 n3 c3, .int .i64 step] w fun e w' => IsBool e ∧ w' = w := by
  unfold maxLen at *
  have HA1 : Hid _ := A1
  clear A1
  by_cases g0 : n0 ≤ 1048576
  · by_cases g1 : n1 ≤ 1048576
    · by_cases g2 : n0 + n1 ≤ 1048576
      · go_enter Try.func18, Try.ntmps18
        go_wp2
        go_loop [11, 12] (fun z i => ∃ (k : Nat) (x : Int), k ≤ n1 ∧ i = .int .i64 k ∧ z = .int .i64 x) (fun _ i => n1 - (intOf i).toNat)
        case atStart => exact ⟨0, _, Nat.zero_le _, rfl, rfl⟩
        case round =>
          obtain ⟨k, x, hk, rfl, rfl⟩ := hrel
          by_cases hlt : k < n1
          · obtain ⟨b1, o1, ha1, hb1, hc1⟩ := HA1.out k hlt
            subst ha1
            have d1 := hc1 k hlt
            generalize ls.getD k ByteArray.empty = lb at d1
            clear hc1
            have hkz : (k : Int) < (n1 : Int) := by omega
            go_wp2
            · go_ret; exact ⟨⟨_, rfl⟩, rfl⟩
            · go_ret; exact ⟨⟨_, rfl⟩, rfl⟩
            go_round
            case rel => exact ⟨k + 1, _, by omega, by go_num, rfl⟩
            case measure => simp [intOf]; omega
          · go_wp2
            all_goals (go_ret; exact ⟨⟨_, rfl⟩, rfl⟩)
      · go_enter Try.func18, Try.ntmps18
        go_wp2
        all_goals (go_ret; exact ⟨⟨_, rfl⟩, rfl⟩)
    · go_enter Try.func18, Try.ntmps18
      go_wp2
      all_goals (go_ret; exact ⟨⟨_, rfl⟩, rfl⟩)
  · go_enter Try.func18, Try.ntmps18
    go_wp2
    all_goals (go_ret; exact ⟨⟨_, rfl⟩, rfl⟩)
set_option maxHeartbeats 1000000 in
theorem bytes11_any (a0 a1 a2 a3 : Option Addr) (n0 n1 n2 n3 c0 c1 c2 c3 : Nat) (ls : List ByteArray) (step : Int) (w : World)
    (A1 : ArgRow w a1 n1 (fun i => .string (ls.getD i ByteArray.empty))) (h0 : n0 ≤ maxLen) (h1 : n1 ≤ maxLen) (h2 : n2 ≤ maxLen) (h3 : n3 ≤ maxLen) :
    Calls Try.prog 11 #[.slice a0 n0 c0, .slice a1 n1 c1, .slice a2 n2 c2, .slice a3 n3 c3, .int .i64 step] w fun e w' => IsBool e ∧ w' = w := by
  unfold maxLen at *
  have HA1 : Hid _ := A1
  clear A1
  by_cases g0 : n0 ≤ 1048576
  · by_cases g1 : n1 ≤ 1048576
    · by_cases g2 : n0 + n1 ≤ 1048576
      · go_enter Try.func11, Try.ntmps11
        go_wp2
        go_loop [11, 12] (fun z i => ∃ (k : Nat) (x : Int), k ≤ n1 ∧ i = .int .i64 k ∧ z = .int .i64 x) (fun _ i => n1 - (intOf i).toNat)
        case atStart => exact ⟨0, _, Nat.zero_le _, rfl, rfl⟩
        case round =>
          obtain ⟨k, x, hk, rfl, rfl⟩ := hrel
          by_cases hlt : k < n1
          · obtain ⟨b1, o1, ha1, hb1, hc1⟩ := HA1.out k hlt
            subst ha1
            have d1 := hc1 k hlt
            generalize ls.getD k ByteArray.empty = lb at d1
            clear hc1
            have hkz : (k : Int) < (n1 : Int) := by omega
            go_wp2
            · go_ret; exact ⟨⟨_, rfl⟩, rfl⟩
            · go_ret; exact ⟨⟨_, rfl⟩, rfl⟩
            go_round
            case rel => exact ⟨k + 1, _, by omega, by go_num, rfl⟩
            case measure => simp [intOf]; omega
          · go_wp2
            all_goals (go_ret; exact ⟨⟨_, rfl⟩, rfl⟩)
      · go_enter Try.func11, Try.ntmps11
        go_wp2
        all_goals (go_ret; exact ⟨⟨_, rfl⟩, rfl⟩)
    · go_enter Try.func11, Try.ntmps11
      go_wp2
      all_goals (go_ret; exact ⟨⟨_, rfl⟩, rfl⟩)
  · go_enter Try.func11, Try.ntmps11
    go_wp2
    all_goals (go_ret; exact ⟨⟨_, rfl⟩, rfl⟩)

theorem before_snoc (ts : List Int) (k : Nat) (h : k < ts.length) (m : Int) : before (ts.take (k + 1)) m = before (ts.take k) m + if ts.getD k 0 < m then 1 else 0 := by
  have e : ts.take (k + 1) = ts.take k ++ [ts.getD k 0] := by
    rw [List.take_succ_eq_append_getElem h]
    simp [List.getD, h]
  rw [e]
  unfold before
  rw [List.countP_append]
  simp [List.countP_cons]

set_option maxHeartbeats 400000 in
theorem samplesBefore_any (a : Option Addr) (c : Nat) (ts : List Int) (m : Int) (w : World) (A : ArgRow w a ts.length (fun i => .int .i64 (ts.getD i 0))) (ht : ts.length ≤ 100000) :
    Calls Try.prog 13 #[.slice a ts.length c, .int .i64 m] w fun e w' => e = .returned (.int .i64 (before ts m)) ∧ w' = w := by
  have HA : Hid _ := A
  clear A
  go_enter Try.func13, Try.ntmps13
  go_wp2
  go_loop [5, 6] (fun n i => ∃ k : Nat, k ≤ ts.length ∧ i = .int .i64 k ∧ n = .int .i64 (before (ts.take k) m)) (fun _ i => ts.length - (intOf i).toNat)
  case atStart => exact ⟨0, Nat.zero_le _, rfl, rfl⟩
  case round =>
    obtain ⟨k, hk, rfl, rfl⟩ := hrel
    have hle := before_le (ts.take k) m
    have hl : (ts.take k).length ≤ k := List.length_take_le _ _
    by_cases hlt : k < ts.length
    · obtain ⟨b, o, ha, hb, hc⟩ := HA.out k hlt
      subst ha
      have d := hc k hlt
      have hsn := before_snoc ts k hlt m
      generalize ts.getD k 0 = x at d hsn
      have HS : Hid _ := hsn
      generalize hB : before (ts.take k) m = B at hle HS
      have HBB : Hid _ := hB
      clear hc hsn hB
      have hkz : (k : Int) < (ts.length : Int) := by omega
      by_cases hx : x < m
      · go_wp2
        go_round
        case rel => exact ⟨k + 1, by omega, by go_num, by rw [HS.out, if_pos hx]; go_num⟩
        case measure => simp [intOf]; omega
      · go_wp2
        go_round
        case rel => exact ⟨k + 1, by omega, by go_num, by rw [HS.out, if_neg hx]; go_num⟩
        case measure => simp [intOf]; omega
    · have ek : ts.take k = ts := List.take_of_length_le (by omega)
      rw [ek]
      go_wp2
      go_ret
      exact ⟨rfl, rfl⟩
end Go.Proofs.Qxb6614303a
