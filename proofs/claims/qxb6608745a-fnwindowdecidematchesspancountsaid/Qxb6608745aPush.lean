import Derived.Test.Qxb6608745aRing
import Derived.Deep.DeepCutAuto
namespace Go.Proofs.Qxb6608745a
open Go.RowKit
set_option linter.unusedVariables false

set_option maxHeartbeats 1000000 in
theorem pushRoom_any (rb bb m head : Nat) (es : List (Int × Int)) (s k : Int) (hm : m ≤ 10000) (hp : ∃ e, m = 2 ^ e) (hh : head < m) (hn : es.length < m) (hne : rb ≠ bb) (w : World)
    (hr : Blk w rb (ringV bb m head es.length)) (hb : RB w bb m head es) :
    Calls Try.prog 30 #[.pointer (some ⟨rb, 0, none⟩), .agg #[.int .i64 s, .int .i64 k]] w fun e w' => e = .returned (.tuple #[]) ∧
      Blk w' rb (ringV bb m head (es.length + 1)) ∧ RB w' bb m head (es ++ [(s, k)]) ∧ Keep (fun b => b ≠ rb ∧ b ≠ bb) w w' := by
  have KW : Hid (Keep (fun _ => True) w (w.alloc (.cells #[.int .i64 s, .int .i64 k] 39))) := (Keep.refl _ _).alloc _
  have hB := Blk.new w #[.int .i64 s, .int .i64 k] 39
  have hr' := KW.out.blk hr trivial
  have hb' := hb.keep KW.out trivial
  have x0 := hB.cell 0 _ rfl
  have x1 := hB.cell 1 _ rfl
  have lr := hr.lt
  have lb := hb.lt
  have nx1 : rb ≠ w.heap.size := by omega
  have nx2 : bb ≠ w.heap.size := by omega
  have hand := ring_and (head + es.length) m hp (by omega) hm (by omega)
  have hq : (head + es.length) % m < m := Nat.mod_lt _ (by omega)
  obtain ⟨u0, y0⟩ := hb'.room ((head + es.length) % m * 2) (by omega)
  obtain ⟨u1, y1⟩ := hb'.room ((head + es.length) % m * 2 + 1) (by omega)
  have z0 := hb'.free ((head + es.length) % m * 2) (by omega)
  have z1 := hb'.free ((head + es.length) % m * 2 + 1) (by omega)
  have HP := hideP (fun j : Nat => (hb'.same (W' := (w.alloc (.cells #[.int .i64 s, .int .i64 k] 39)).drewN j) rfl (Nat.le_refl _)).push hh hn s k)
  have r0 := hr'.cell 0 _ rfl
  have r1 := hr'.cell 1 _ rfl
  have r2 := hr'.cell 2 _ rfl
  have f2 := hr'.free 2 (by simp [ringV])
  have HR := hideP hr'
  generalize hqq : (head + es.length) % m = q at *
  have hand' : bits .and .i64 ((head : Int) + (es.length : Int)) ((m : Int) - 1) = (q : Int) := by rw [← hand]; congr 1
  have heq : ((es.length : Int) == (m : Int)) = false := by rw [beq_eq_false_iff_ne]; omega
  have HL : Hid (es.length < m) := hn
  generalize hN : es.length = n at *
  clear hr hb hB hr' hb' hand hqq hN hp
  go_enter Try.func30, Try.ntmps30
  go_upto_region 1 with fail
  generalize w.heap.size = xb at *
  generalize w.alloc (.cells #[.int .i64 s, .int .i64 k] 39) = W0 at *
  go_quiet (fail)
  go_wp2_with fail
  go_region
  go_wp2
  first | (refine bodyPost_ret (results_none rfl _ _ _) rfl ?_) | (refine bodyPost_end (results_none rfl _ _ _) rfl ?_)
  refine ⟨rfl, ?_, ?_, ?_⟩
  · exact (((HR.out.drew _).far bb _ _ hne).far bb _ _ hne).set 2 (by simp [ringV]) _
  · exact (HP.out _).same (Below.heap_setCell _ _ _ _ (Ne.symm hne)) (by simp [World.setCell])
  · exact ((((KW.out.mono (fun _ _ => trivial)).drewN _).set bb _ _ (by simp)).set bb _ _ (by simp)).set rb _ _ (by simp)
end Go.Proofs.Qxb6608745a
