import Derived.Test.Qxb6608745aGrow
namespace Go.Proofs.Qxb6608745a
open Go.RowKit
set_option linter.unusedVariables false

set_option maxRecDepth 100000 in
set_option maxHeartbeats 2000000 in
theorem pushFresh_any (rb : Nat) (s k : Int) (w : World) (hr : Blk w rb [.slice none 0 0, .int .i64 0, .int .i64 0]) :
    Calls Try.prog 30 #[.pointer (some ⟨rb, 0, none⟩), .agg #[.int .i64 s, .int .i64 k]] w fun e w' => e = .returned (.tuple #[]) ∧
      ∃ g, w.heap.size ≤ g ∧ Blk w' rb (ringV g 2 0 1) ∧ RB w' g 2 0 [(s, k)] ∧ Keep (fun b => b ≠ rb) w w' := by
  have KW : Hid (Keep (fun _ => True) w (w.alloc (.cells #[.int .i64 s, .int .i64 k] 39))) := (Keep.refl _ _).alloc _
  have hB := Blk.new w #[.int .i64 s, .int .i64 k] 39
  have HB := hideP hB
  have hr' := KW.out.blk hr trivial
  have HR := hideP hr'
  have lr := hr.lt
  have hsz : (w.alloc (.cells #[.int .i64 s, .int .i64 k] 39)).heap.size = w.heap.size + 1 := by simp
  have r0 := hr'.cell 0 _ rfl
  have r2 := hr'.cell 2 _ rfl
  obtain ⟨i1, hi, hz0, hz1, hz2⟩ := infoParts info39
  clear hr hB hr'
  go_enter Try.func30, Try.ntmps30
  go_upto_region 1 with fail
  generalize hxb : w.heap.size = xb at *
  generalize w.alloc (.cells #[.int .i64 s, .int .i64 k] 39) = W0 at *
  go_quiet (fail)
  go_wp2_with (at_make; refine wpList_make_full _ rfl _ _ 57 rfl (xb + 1) 39 i1 _ 2 Try.underlying57 hi hz0 hz1 _ _ _ _ 2 rfl rfl (by omega) (by omega) (by rw [hz2]; omega) (by unfold maxLen; omega) (by simp; omega) ?_; intro w3 hown hgr; have KG : Hid (Keep (fun _ => True) W0 w3) := ((Keep.refl _ W0).drewN nq).grown hgr; have q2 : w3.cell? ⟨rb, 2, none⟩ = some (.int .i64 0) := (KG.out.blk HR.out trivial).cell 2 _ rfl)
  have hs3 : (W0.drewN nq).heap.size = xb + 1 := hsz
  rw [hs3] at hown
  have RM : Hid (RB w3 (xb + 1) 2 0 []) := RB.made hown
  have HR3 := hideP (KG.out.blk HR.out trivial)
  have HB3 := hideP (KG.out.blk HB.out trivial)
  have KW3 := hideP (KW.out.trans KG.out)
  clear hown hgr hs3 r0 r2 q2 HR HB KW KG hi hz0 hz1 hz2 hsz
  go_loopg [5, 28] 0 (fun g s5 s28 wr => s28 = .int .i64 0 ∧ wr = w3)
  case atStart => exact ⟨rfl, rfl⟩
  case round =>
    obtain ⟨rfl, rfl⟩ := hrel
    have r0 := HR3.out.cell 0 _ rfl
    have r1 := HR3.out.cell 1 _ rfl
    have f0 := HR3.out.free 0 (by simp)
    have f1 := HR3.out.free 1 (by simp)
    have HR5 : Hid (Blk ((wr.setCell ⟨rb, 0, none⟩ (.slice (some ⟨xb + 1, 0, none⟩) 2 2)).setCell ⟨rb, 1, none⟩ (.int .i64 0)) rb (ringV (xb + 1) 2 0 0)) := (HR3.out.set 0 (by simp) _).set 1 (by simp) _
    have HG5 : Hid (RB ((wr.setCell ⟨rb, 0, none⟩ (.slice (some ⟨xb + 1, 0, none⟩) 2 2)).setCell ⟨rb, 1, none⟩ (.int .i64 0)) (xb + 1) 2 0 []) :=
      (RM.out.same (Below.heap_setCell _ _ _ _ (show xb + 1 ≠ rb by omega)) (by simp [World.setCell])).same (Below.heap_setCell _ _ _ _ (show xb + 1 ≠ rb by omega)) (by simp [World.setCell])
    have HX5 : Hid (Blk ((wr.setCell ⟨rb, 0, none⟩ (.slice (some ⟨xb + 1, 0, none⟩) 2 2)).setCell ⟨rb, 1, none⟩ (.int .i64 0)) xb [.int .i64 s, .int .i64 k]) :=
      (HB3.out.far rb _ _ (by omega)).far rb _ _ (by omega)
    have HK5 : Hid (Keep (fun b => b ≠ rb) w ((wr.setCell ⟨rb, 0, none⟩ (.slice (some ⟨xb + 1, 0, none⟩) 2 2)).setCell ⟨rb, 1, none⟩ (.int .i64 0))) := 
      ((KW3.out.mono (fun _ _ => trivial)).set rb _ _ (by simp)).set rb _ _ (by simp)
    go_upto_region 9 with fail
    generalize (wr.setCell ⟨rb, 0, none⟩ (.slice (some ⟨xb + 1, 0, none⟩) 2 2)).setCell ⟨rb, 1, none⟩ (.int .i64 0) = W5 at HR5 HG5 HX5 HK5 ⊢
    clear r0 r1 f0 f1
    have x0 := HX5.out.cell 0 _ rfl
    have x1 := HX5.out.cell 1 _ rfl
    have r0 := HR5.out.cell 0 _ rfl
    have r1 : W5.cell? ⟨rb, 1, none⟩ = some (.int .i64 0) := HR5.out.cell 1 _ rfl
    have r2 : W5.cell? ⟨rb, 2, none⟩ = some (.int .i64 0) := HR5.out.cell 2 _ rfl
    have f2 := HR5.out.free 2 (by simp [ringV])
    have hand : bits .and .i64 0 1 = 0 := and_i64 0 1 (by omega) (by omega)
    obtain ⟨u0, y0⟩ := HG5.out.room 0 (by omega)
    obtain ⟨u1, y1⟩ := HG5.out.room 1 (by omega)
    have z0 := HG5.out.free 0 (by omega)
    have z1 := HG5.out.free 1 (by omega)
    have HPU : Hid (RB ((W5.setCell ⟨xb + 1, 0, none⟩ (.int .i64 s)).setCell ⟨xb + 1, 1, none⟩ (.int .i64 k)) (xb + 1) 2 0 [(s, k)]) := HG5.out.push (by omega) (by simp) s k
    have ng : rb ≠ xb + 1 := by omega
    go_region
    go_wp2
    first | (refine bodyPost_ret (results_none rfl _ _ _) rfl ?_) | (refine bodyPost_end (results_none rfl _ _ _) rfl ?_)
    refine ⟨rfl, xb + 1, by omega, ?_, ?_, ?_⟩
    · exact ((((HR5.out.far (xb + 1) _ _ ng).far (xb + 1) _ _ ng).set 2 (by simp [ringV]) _)).drew 1
    · exact (HPU.out.same (Below.heap_setCell _ _ _ _ (Ne.symm ng)) (by simp [World.setCell])).same rfl (Nat.le_refl _)
    · exact (((HK5.out.setNew (xb + 1) _ _ (by omega)).setNew (xb + 1) _ _ (by omega)).set rb _ _ (by simp)).drew
end Go.Proofs.Qxb6608745a
