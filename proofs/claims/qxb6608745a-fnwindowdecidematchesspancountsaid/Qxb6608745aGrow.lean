import Derived.Test.Qxb6608745aPush
import Derived.Deep.LoopGhost
namespace Go.Proofs.Qxb6608745a
open Go.RowKit
set_option linter.unusedVariables false

theorem info39 : (Try.prog.info? 39).map (fun i => (i.zero, i.size, i.bytes)) = some (some (.agg #[.int .i64 0, .int .i64 0]), 2, 16) := by kernel_rfl

theorem infoParts {P : Program} {t : TypeId} {z : Option Value} {s b : Nat} (h : (P.info? t).map (fun i => (i.zero, i.size, i.bytes)) = some (z, s, b)) : ∃ i, P.info? t = some i ∧ i.zero = z ∧ i.size = s ∧ i.bytes = b := by
  match hi : P.info? t, h with
  | some i, h =>
    simp at h
    exact ⟨i, rfl, h.1, h.2.1, h.2.2⟩

theorem Keep.setNew {P : Nat → Prop} {a w : World} (h : Keep P a w) (b j : Nat) (x : Value) (hb : a.heap.size ≤ b) : Keep P a (w.setCell ⟨b, j, none⟩ x) :=
  ⟨h.os, h.tape, h.output, by have := h.size; simpa [World.setCell] using this, fun k hk hp => (Below.heap_setCell _ _ _ _ (show k ≠ b by omega)).trans (h.block k hk hp)⟩

theorem RB.made {W : World} {base e g n cap : Nat} {xs : List Value} (h : W.ownsRow base e 2 (.slice (some ⟨g, 0, none⟩) n cap) n xs) : RB W g n 0 [] := by
  rcases h.2 with ⟨h1, _⟩ | ⟨g', cap', cur, h1, hg, hh, hn, hm, hs, ht⟩
  · simp at h1
  · simp at h1
    obtain ⟨rfl, rfl⟩ := h1
    refine ⟨(Array.getElem?_eq_some_iff.1 hh).1, fun o ho => ?_, fun o ho => by simp [World.frozen?, hh], fun i hi => by simp at hi⟩
    have : o < cur.size := by rw [hs]; omega
    exact ⟨cur[o], by simp [World.cell?, hh, this]⟩

theorem take_snoc (es : List (Int × Int)) (i : Nat) (h : i < es.length) : es.take (i + 1) = es.take i ++ [((es.getD i (0, 0)).1, (es.getD i (0, 0)).2)] := by
  rw [List.take_succ_eq_append_getElem h]
  simp only [List.getD, List.getElem?_eq_getElem h, Option.getD_some]

set_option maxRecDepth 100000 in
set_option maxHeartbeats 2000000 in
theorem pushGrow_any (rb bb n head : Nat) (es : List (Int × Int)) (s k : Int) (hlen : es.length = n) (hn1 : 1 ≤ n) (hn2 : n ≤ 4100) (hp : ∃ e, n = 2 ^ e) (hh : head < n) (hne : rb ≠ bb) (w : World)
    (hr : Blk w rb (ringV bb n head n)) (hb : RB w bb n head es) :
    Calls Try.prog 30 #[.pointer (some ⟨rb, 0, none⟩), .agg #[.int .i64 s, .int .i64 k]] w fun e w' => e = .returned (.tuple #[]) ∧
      ∃ g, w.heap.size ≤ g ∧ Blk w' rb (ringV g (2 * n) 0 (n + 1)) ∧ RB w' g (2 * n) 0 (es ++ [(s, k)]) ∧ Keep (fun b => b ≠ rb) w w' := by
  have KW : Hid (Keep (fun _ => True) w (w.alloc (.cells #[.int .i64 s, .int .i64 k] 39))) := (Keep.refl _ _).alloc _
  have hB := Blk.new w #[.int .i64 s, .int .i64 k] 39
  have HB := hideP hB
  have hr' := KW.out.blk hr trivial
  have HR := hideP hr'
  have HRB := hideP (hb.keep KW.out trivial)
  have lr := hr.lt
  have lb := hb.lt
  have hsz : (w.alloc (.cells #[.int .i64 s, .int .i64 k] 39)).heap.size = w.heap.size + 1 := by simp
  have HP := hideP hp
  have HLEN := hideP hlen
  have r0 := hr'.cell 0 _ rfl
  have r2 := hr'.cell 2 _ rfl
  have heq : ((n : Int) == (n : Int)) = true := by simp
  obtain ⟨i1, hi, hz0, hz1, hz2⟩ := infoParts info39
  clear hr hb hB hr' hp hlen
  go_enter Try.func30, Try.ntmps30
  go_upto_region 1 with fail
  generalize hxb : w.heap.size = xb at *
  generalize w.alloc (.cells #[.int .i64 s, .int .i64 k] 39) = W0 at *
  go_quiet (fail)
  go_wp2_with (at_make; refine wpList_make_full _ rfl _ _ 57 rfl (xb + 1) 39 i1 _ 2 Try.underlying57 hi hz0 hz1 _ _ _ _ (2 * n) rfl rfl (by omega) (by omega) (by rw [hz2]; omega) (by unfold maxLen; omega) (by simp; omega) ?_; intro w3 hown hgr; have KG : Hid (Keep (fun _ => True) W0 w3) := ((Keep.refl _ W0).drewN nq).grown hgr; have q2 := (KG.out.blk HR.out trivial).cell 2 _ rfl)
  have hs3 : (W0.drewN nq).heap.size = xb + 1 := hsz
  rw [hs3] at hown
  have RM : Hid (RB w3 (xb + 1) (2 * n) 0 []) := RB.made hown
  have HR3 := hideP (KG.out.blk HR.out trivial)
  have HRB3 := hideP (HRB.out.keep KG.out trivial)
  have HB3 := hideP (KG.out.blk HB.out trivial)
  have KW3 := hideP (KW.out.trans KG.out)
  clear hown hgr hs3 r0 r2 q2 HR HRB HB KW KG hi hz0 hz1 hz2 hsz
  go_loopg [5, 28] n (fun g s5 s28 wr => ∃ i : Nat, i ≤ n ∧ n - i ≤ g ∧ s28 = .int .i64 i ∧ Hid (RB wr (xb + 1) (2 * n) 0 (es.take i)) ∧ Hid (Keep (fun b => b ≠ xb + 1) w3 wr))
  case atStart => exact ⟨0, by omega, by omega, rfl, RM, Keep.refl _ _⟩
  case round =>
    obtain ⟨i, hi, hg, rfl, HRi, HKi⟩ := hrel
    by_cases hlt : i < n
    · have hr4 := HKi.out.blk HR3.out (by omega)
      have hb4 := HRB3.out.keep HKi.out (by omega)
      have r0 := hr4.cell 0 _ rfl
      have r1 := hr4.cell 1 _ rfl
      have hand := ring_and (head + i) n HP.out (by omega) (by omega) (by omega)
      have hq : (head + i) % n < n := Nat.mod_lt _ (by omega)
      obtain ⟨e0, e1⟩ := hb4.ent i (by rw [HLEN.out]; exact hlt)
      have hl2 : (es.take i).length = i := by rw [List.length_take, HLEN.out]; omega
      obtain ⟨u0, y0⟩ := HRi.out.room (i * 2) (by omega)
      obtain ⟨u1, y1⟩ := HRi.out.room (i * 2 + 1) (by omega)
      have z0 := HRi.out.free (i * 2) (by omega)
      have z1 := HRi.out.free (i * 2 + 1) (by omega)
      have hsn := take_snoc es i (by rw [HLEN.out]; exact hlt)
      generalize (es.getD i (0, 0)).1 = x at e0 hsn
      generalize (es.getD i (0, 0)).2 = y at e1 hsn
      have HPU : Hid (∀ j : Nat, RB ((((wr.drewN j)).setCell ⟨xb + 1, i * 2, none⟩ (.int .i64 x)).setCell ⟨xb + 1, i * 2 + 1, none⟩ (.int .i64 y)) (xb + 1) (2 * n) 0 (es.take (i + 1))) := fun j => by
        have h := (HRi.out.same (W' := wr.drewN j) rfl (Nat.le_refl _)).push (by omega) (by omega) x y
        rw [hl2, Nat.zero_add, Nat.mod_eq_of_lt (show i < 2 * n by omega), ← hsn] at h
        exact h
      generalize (head + i) % n = q at *
      have hand' : bits .and .i64 ((head : Int) + (i : Int)) ((n : Int) - 1) = (q : Int) := by rw [← hand]; congr 1
      clear hr4 hb4 hand hl2 hsn
      go_wp2_with fail
      go_region
      go_wp2
      go_roundg (gk - 1)
      case measure => omega
      case rel => exact ⟨i + 1, by omega, by omega, by go_num, (HPU.out 0).same rfl (Nat.le_refl _), (((HKi.out.set _ _ _ (by simp)).set _ _ _ (by simp)).drew)⟩
    · obtain rfl : i = n := by omega
      have hr4 := HKi.out.blk HR3.out (by omega)
      have r0 := hr4.cell 0 _ rfl
      have r1 := hr4.cell 1 _ rfl
      have f0 := hr4.free 0 (by simp [ringV])
      have f1 := hr4.free 1 (by simp [ringV])
      have HES : Hid (es.take i = es) := by show _ = _; rw [← HLEN.out]; exact List.take_length
      rw [HES.out] at HRi
      have HR5 : Hid (Blk ((wr.setCell ⟨rb, 0, none⟩ (.slice (some ⟨xb + 1, 0, none⟩) (2 * i) (2 * i))).setCell ⟨rb, 1, none⟩ (.int .i64 0)) rb (ringV (xb + 1) (2 * i) 0 i)) := (hr4.set 0 (by simp [ringV]) _).set 1 (by simp [ringV]) _
      have HG5 : Hid (RB ((wr.setCell ⟨rb, 0, none⟩ (.slice (some ⟨xb + 1, 0, none⟩) (2 * i) (2 * i))).setCell ⟨rb, 1, none⟩ (.int .i64 0)) (xb + 1) (2 * i) 0 es) :=
        (HRi.out.same (Below.heap_setCell _ _ _ _ (show xb + 1 ≠ rb by omega)) (by simp [World.setCell])).same (Below.heap_setCell _ _ _ _ (show xb + 1 ≠ rb by omega)) (by simp [World.setCell])
      have HX5 : Hid (Blk ((wr.setCell ⟨rb, 0, none⟩ (.slice (some ⟨xb + 1, 0, none⟩) (2 * i) (2 * i))).setCell ⟨rb, 1, none⟩ (.int .i64 0)) xb [.int .i64 s, .int .i64 k]) :=
        ((HKi.out.blk HB3.out (by omega)).far rb _ _ (by omega)).far rb _ _ (by omega)
      have HK5 : Hid (Keep (fun b => b ≠ rb) w ((wr.setCell ⟨rb, 0, none⟩ (.slice (some ⟨xb + 1, 0, none⟩) (2 * i) (2 * i))).setCell ⟨rb, 1, none⟩ (.int .i64 0))) := by
        have h0 : Keep (fun b => b ≠ rb) w wr := ⟨HKi.out.os.trans KW3.out.os, HKi.out.tape.trans KW3.out.tape, HKi.out.output.trans KW3.out.output, Nat.le_trans KW3.out.size HKi.out.size, fun b hb _ => (HKi.out.block b (Nat.lt_of_lt_of_le hb KW3.out.size) (by omega)).trans (KW3.out.block b hb trivial)⟩
        exact (h0.set rb _ _ (by simp)).set rb _ _ (by simp)
      clear hr4
      go_upto_region 9 with fail
      generalize (wr.setCell ⟨rb, 0, none⟩ (.slice (some ⟨xb + 1, 0, none⟩) (2 * i) (2 * i))).setCell ⟨rb, 1, none⟩ (.int .i64 0) = W5 at HR5 HG5 HX5 HK5 ⊢
      clear r0 r1 f0 f1
      have x0 := HX5.out.cell 0 _ rfl
      have x1 := HX5.out.cell 1 _ rfl
      have r0 := HR5.out.cell 0 _ rfl
      have r1 : W5.cell? ⟨rb, 1, none⟩ = some (.int .i64 0) := HR5.out.cell 1 _ rfl
      have r2 := HR5.out.cell 2 _ rfl
      have f2 := HR5.out.free 2 (by simp [ringV])
      have hand : bits .and .i64 (i : Int) (2 * (i : Int) - 1) = (i : Int) := by
        obtain ⟨e, he⟩ := HP.out
        have h := ring_and i (2 * i) ⟨e + 1, by rw [Nat.pow_succ, ← he]; omega⟩ (by omega) (by omega) (by omega)
        rw [Nat.mod_eq_of_lt (show i < 2 * i by omega)] at h
        rw [show ((2 * i : Nat) : Int) = 2 * (i : Int) by omega] at h
        exact h
      obtain ⟨u0, y0⟩ := HG5.out.room (i * 2) (by omega)
      obtain ⟨u1, y1⟩ := HG5.out.room (i * 2 + 1) (by omega)
      have z0 := HG5.out.free (i * 2) (by omega)
      have z1 := HG5.out.free (i * 2 + 1) (by omega)
      have HPU : Hid (∀ j : Nat, RB ((((W5.drewN j)).setCell ⟨xb + 1, i * 2, none⟩ (.int .i64 s)).setCell ⟨xb + 1, i * 2 + 1, none⟩ (.int .i64 k)) (xb + 1) (2 * i) 0 (es ++ [(s, k)])) := fun j => by
        have h := (HG5.out.same (W' := W5.drewN j) rfl (Nat.le_refl _)).push (by omega) (by rw [HLEN.out]; omega) s k
        rw [HLEN.out, Nat.zero_add, Nat.mod_eq_of_lt (show i < 2 * i by omega)] at h
        exact h
      have ng : rb ≠ xb + 1 := by omega
      go_region
      go_wp2
      first | (refine bodyPost_ret (results_none rfl _ _ _) rfl ?_) | (refine bodyPost_end (results_none rfl _ _ _) rfl ?_)
      refine ⟨rfl, xb + 1, by omega, ?_, ?_, ?_⟩
      · exact ((((HR5.out.far (xb + 1) _ _ ng).far (xb + 1) _ _ ng).set 2 (by simp [ringV]) _)).drew 1
      · exact ((HPU.out 0).same (Below.heap_setCell _ _ _ _ (Ne.symm ng)) (by simp [World.setCell])).same rfl (Nat.le_refl _)
      · exact (((HK5.out.setNew (xb + 1) _ _ (by omega)).setNew (xb + 1) _ _ (by omega)).set rb _ _ (by simp)).drew
end Go.Proofs.Qxb6608745a
