import Derived.Test.Qxb6614303aTime
import Derived.Shelf.SlSortCmp.QuietGrown
import Derived.Deep.LoopGhost
import Derived.BigQuiet
namespace Go.Proofs.Qxb6614303a
open Go.RowKit Go.Sort
set_option linter.unusedVariables false

set_option maxHeartbeats 400000 in
theorem closure33 (n m : Int) (f : Nat) (W : World) :
    Calls Try.prog 33 #[.agg #[.int .u64 (n % 1000000000), .int .i64 (n / 1000000000), .pointer none, .float .f64 f], timeV m] W fun e w' => e = .returned (.int .i64 (cmpI n m)) ∧ ∃ q os', w' = grow (W.drewN q) os' := by
  have hc := fun W => compare_any n m W
  simp only [timeV_cells] at hc ⊢
  generalize n % 1000000000 = r at *
  generalize n / 1000000000 = q at *
  generalize m % 1000000000 = r2 at *
  generalize m / 1000000000 = q2 at *
  generalize cmpI n m = c at *
  go_enter Try.func33, Try.ntmps33
  go_wp2_with (go_at_call 34; refine (hc _).mono ?_; rintro e w' ⟨rfl, o1, o2, rfl⟩)
  go_ret
  exact ⟨rfl, 0, _, by rw [alloc_eq_grow, alloc_eq_grow, alloc_eq_grow, alloc_eq_grow, grow_grow, grow_grow, grow_grow]; rfl⟩

theorem grow2 (w : World) (q n : Nat) (os os2 : Array Obj) : grow ((grow (w.drewN q) os).drewN n) os2 = grow (w.drewN (q + n)) (os ++ os2) := by
  show grow (grow ((w.drewN q).drewN n) os) os2 = _
  rw [grow_grow, World.drewN_drewN]

theorem grow_alloc (w : World) (o : Obj) (q : Nat) (os : Array Obj) : grow ((w.alloc o).drewN q) os = grow (w.drewN q) (#[o] ++ os) := by
  rw [alloc_eq_grow]
  show grow (grow (w.drewN q) #[o]) os = _
  rw [grow_grow]

theorem cmpI_neg (x m : Int) : cmpI x m < 0 ↔ x < m := by
  unfold cmpI
  by_cases h : x < m
  · simp [h]
  · rw [if_neg h]; by_cases h2 : m < x <;> simp [h, h2]

/-- The cells of a row of samples at the head of block sb: their instants and their values. -/
def Samples (w : World) (sb : Nat) (ts : List Int) (fs : List Nat) : Prop :=
  ∀ i, i < ts.length → w.cell? ⟨sb, i * 4, none⟩ = some (.int .u64 ((ts.getD i 0) % 1000000000)) ∧ w.cell? ⟨sb, i * 4 + 1, none⟩ = some (.int .i64 ((ts.getD i 0) / 1000000000)) ∧
    w.cell? ⟨sb, i * 4 + 2, none⟩ = some (.pointer none) ∧ w.cell? ⟨sb, i * 4 + 3, none⟩ = some (.float .f64 (fs.getD i 0))

set_option maxHeartbeats 1000000 in
theorem search_any (sb cap : Nat) (ts : List Int) (fs : List Nat) (m : Int) (w : World) (hS : Samples w sb ts fs) (hb : sb < w.heap.size) (hsz : ts.length ≤ 1000000)
    (cnt : Nat) (hcnt : cnt ≤ ts.length) (hlo : ∀ t, t < cnt → ts.getD t 0 < m) (hhi : ∀ t, cnt ≤ t → t < ts.length → m ≤ ts.getD t 0) :
    Calls Try.prog 32 #[.slice (some ⟨sb, 0, none⟩) ts.length cap, timeV m, .func (.func 33) #[] #[]] w fun e w' => ∃ b, e = .returned (.tuple #[.int .i64 cnt, .bool b]) ∧ ∃ q os', w' = grow (w.drewN q) os' := by
  have mixed : Try.prog.follows .mixedOrders = true := by kernel_rfl
  have HS : Hid (Samples w sb ts fs) := hS
  have LO : Hid _ := hlo
  have HI : Hid _ := hhi
  clear hS hlo hhi
  simp only [timeV_cells]
  go_enter Try.func32, Try.ntmps32
  go_wp2
  go_loopg [9, 10] ts.length (fun kx s9 s10 wr => ∃ lo hi : Nat, s9 = .int .i64 lo ∧ s10 = .int .i64 hi ∧ lo ≤ cnt ∧ cnt ≤ hi ∧ hi ≤ ts.length ∧ hi - lo ≤ kx ∧ ∃ q os', wr = grow ((w.alloc (.cells #[.int .u64 (m % 1000000000), .int .i64 (m / 1000000000), .pointer none] 48)).drewN q) os')
  case atStart => exact ⟨0, ts.length, rfl, rfl, by omega, hcnt, Nat.le_refl _, by omega, 0, #[], by rw [grow_empty]; rfl⟩
  case round =>
    obtain ⟨lo, hi, rfl, rfl, h1, h2, h3, h4, q, os', hwr⟩ := hrel
    have WR : Hid _ := hwr
    have k0 : ∀ n os, (grow (wr.drewN n) os).cell? ⟨w.heap.size, 0, none⟩ = some (.int .u64 (m % 1000000000)) := fun n os => by rw [hwr]; exact cell_grown (by simp; omega) (cell_grown (by simp) (by go_simp) _ _) _ _
    have k1 : ∀ n os, (grow (wr.drewN n) os).cell? ⟨w.heap.size, 1, none⟩ = some (.int .i64 (m / 1000000000)) := fun n os => by rw [hwr]; exact cell_grown (by simp; omega) (cell_grown (by simp) (by go_simp) _ _) _ _
    have k2 : ∀ n os, (grow (wr.drewN n) os).cell? ⟨w.heap.size, 2, none⟩ = some (.pointer none) := fun n os => by rw [hwr]; exact cell_grown (by simp; omega) (cell_grown (by simp) (by go_simp) _ _) _ _
    have old : ∀ n os o v, w.cell? ⟨sb, o, none⟩ = some v → (grow (wr.drewN n) os).cell? ⟨sb, o, none⟩ = some v := fun n os o v h => by
      rw [hwr]; exact cell_grown (by simp; omega) (cell_grown (by simp; omega) (by rw [World.cell?_alloc_past _ _ _ (by simpa using hb)]; exact h) _ _) _ _
    have OLD : Hid _ := old
    clear hwr old
    by_cases hlt : lo < hi
    · obtain ⟨mid, hmid⟩ : ∃ mid : Nat, mid = (lo + hi) / 2 := ⟨_, rfl⟩
      have hm' : ((lo : Int) + (hi : Int)) / 2 = (mid : Int) := by omega
      have hl1 : lo ≤ mid := by omega
      have hl2 : mid < hi := by omega
      have MID : Hid _ := hmid
      clear hmid
      have g := HS.out mid (by omega)
      have c0 := fun n os => OLD.out n os _ _ g.1
      have c1 := fun n os => OLD.out n os _ _ g.2.1
      have c2 := fun n os => OLD.out n os _ _ g.2.2.1
      have c3 := fun n os => OLD.out n os _ _ g.2.2.2
      clear g
      have hc := fun W => closure33 (ts.getD mid 0) m (fs.getD mid 0) W
      simp only [timeV_cells] at hc
      generalize hx : ts.getD mid 0 = x at c0 c1 hc
      have HX : Hid _ := hx
      clear hx
      generalize fs.getD mid 0 = fx at c3 hc
      have hcm := cmpI_neg x m
      generalize cmpI x m = c at hc hcm
      have hcg : ∀ n os, Calls Try.prog 33 #[.agg #[.int .u64 (x % 1000000000), .int .i64 (x / 1000000000), .pointer none, .float .f64 fx], .agg #[.int .u64 (m % 1000000000), .int .i64 (m / 1000000000), .pointer none]] (grow (wr.drewN n) os) fun e w'' => e = .returned (.int .i64 c) ∧ ∃ p : GrownBy, w'' = grow (wr.drewN p.n) p.os := fun n os => Calls.grown_of (hc _)
      have HCG : Hid _ := hcg
      have HCM : Hid _ := hcm
      clear hc hcg hcm
      have hmz : (mid : Int) < (ts.length : Int) := by omega
      by_cases hxm : c < 0
      · go_wp2_with fail
        go_quiet_grown (first | (go_at_call 33; exact HCG.out _ _))
        go_wp2
        go_roundg (hi - (mid + 1))
        case measure => omega
        case rel =>
          refine ⟨mid + 1, hi, by go_num, rfl, ?_, h2, h3, Nat.le_refl _, ?_⟩
          · by_cases hle : mid < cnt
            · omega
            · have := HI.out mid (by omega) (by omega); rw [HX.out] at this; have := HCM.out.1 hxm; omega
          · rw [WR.out]; exact ⟨q + nq, os' ++ osq, grow2 _ _ _ _ _⟩
      · go_wp2_with fail
        go_quiet_grown (first | (go_at_call 33; exact HCG.out _ _))
        go_wp2
        go_roundg (mid - lo)
        case measure => omega
        case rel =>
          refine ⟨lo, mid, rfl, rfl, h1, ?_, by omega, Nat.le_refl _, ?_⟩
          · by_cases hle : cnt ≤ mid
            · exact hle
            · have := LO.out mid (by omega); rw [HX.out] at this; have := HCM.out.2 this; omega
          · rw [WR.out]; exact ⟨q + nq, os' ++ osq, grow2 _ _ _ _ _⟩
    · have e1 : lo = cnt := by omega
      have e2 : hi = cnt := by omega
      subst e1
      have E2 : Hid _ := e2
      clear e2
      have fin : ∀ n os, ∃ q os', grow (wr.drewN n) os = grow (w.drewN q) os' := fun n os => by
        rw [WR.out]; exact ⟨q + n, _, (grow2 _ _ _ _ _).trans (grow_alloc _ _ _ _)⟩
      have FIN : Hid _ := fin
      clear fin
      by_cases hin : lo < ts.length
      · have hinz : (lo : Int) < (ts.length : Int) := by omega
        have g := HS.out lo hin
        have c0 := fun n os => OLD.out n os _ _ g.1
        have c1 := fun n os => OLD.out n os _ _ g.2.1
        have c2 := fun n os => OLD.out n os _ _ g.2.2.1
        have c3 := fun n os => OLD.out n os _ _ g.2.2.2
        clear g
        have hc := fun W => closure33 (ts.getD lo 0) m (fs.getD lo 0) W
        simp only [timeV_cells] at hc
        generalize hx : ts.getD lo 0 = x at c0 c1 hc
        clear hx
        generalize fs.getD lo 0 = fx at c3 hc
        generalize cmpI x m = c at hc
        have hcg : ∀ n os, Calls Try.prog 33 #[.agg #[.int .u64 (x % 1000000000), .int .i64 (x / 1000000000), .pointer none, .float .f64 fx], .agg #[.int .u64 (m % 1000000000), .int .i64 (m / 1000000000), .pointer none]] (grow (wr.drewN n) os) fun e w'' => e = .returned (.int .i64 c) ∧ ∃ p : GrownBy, w'' = grow (wr.drewN p.n) p.os := fun n os => Calls.grown_of (hc _)
        have HCG : Hid _ := hcg
        clear hc hcg
        go_wp2_with fail
        go_quiet_grown (first | (go_at_call 33; exact HCG.out _ _))
        go_wp2
        go_ret2
        exact ⟨_, rfl, FIN.out _ _⟩
      · have hinz : decide ((lo : Int) < (ts.length : Int)) = false := decide_eq_false (by omega)
        go_wp2_with fail
        go_quiet (fail)
        go_wp2
        go_ret2
        exact ⟨_, rfl, by have := FIN.out nq #[]; rwa [grow_empty] at this⟩
end Go.Proofs.Qxb6614303a
