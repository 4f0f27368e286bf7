import Derived.Test.Qxb6608745aDec
import Derived.RegionTactic
import Derived.ChangeAlike
import Derived.BigRegion
import Derived.OwnWalk
namespace Go.Proofs.Qxb6608745a
open Go.RowKit
set_option linter.unusedVariables false

/-- What was there, of the blocks that P names, is as it was. -/
structure Keep (P : Nat → Prop) (w w' : World) : Prop where
  os : w'.os = w.os
  tape : w'.tape = w.tape
  output : w'.output = w.output
  size : w.heap.size ≤ w'.heap.size
  block : ∀ b, b < w.heap.size → P b → w'.heap[b]? = w.heap[b]?

theorem Keep.refl (P : Nat → Prop) (w : World) : Keep P w w := ⟨rfl, rfl, rfl, Nat.le_refl _, fun _ _ _ => rfl⟩
theorem Keep.trans {P : Nat → Prop} {a b c : World} (h : Keep P a b) (k : Keep P b c) : Keep P a c :=
  ⟨k.os.trans h.os, k.tape.trans h.tape, k.output.trans h.output, Nat.le_trans h.size k.size, fun i hi hp => (k.block i (Nat.lt_of_lt_of_le hi h.size) hp).trans (h.block i hi hp)⟩
theorem Keep.mono {P P' : Nat → Prop} {w w' : World} (h : Keep P w w') (hp : ∀ b, P' b → P b) : Keep P' w w' := ⟨h.os, h.tape, h.output, h.size, fun b hb hb2 => h.block b hb (hp b hb2)⟩
theorem Keep.drew {P : Nat → Prop} {a w : World} (h : Keep P a w) : Keep P a w.drew := ⟨h.os, h.tape, h.output, h.size, h.block⟩
theorem Keep.drewN {P : Nat → Prop} {a w : World} (h : Keep P a w) (n : Nat) : Keep P a (w.drewN n) := ⟨h.os, h.tape, h.output, h.size, h.block⟩
theorem Keep.alloc {P : Nat → Prop} {a w : World} (h : Keep P a w) (o : Obj) : Keep P a (w.alloc o) :=
  h.trans ⟨rfl, rfl, rfl, by simp, fun k hk _ => Below.heap_alloc _ _ _ hk⟩
theorem Keep.set {P : Nat → Prop} {a w : World} (h : Keep P a w) (b j : Nat) (x : Value) (hb : ¬ P b) : Keep P a (w.setCell ⟨b, j, none⟩ x) :=
  h.trans ⟨rfl, rfl, rfl, by simp [World.setCell], fun k hk hp => Below.heap_setCell _ _ _ _ (fun e => hb (by have e' : k = b := e; rw [← e']; exact hp))⟩
theorem Keep.grown {P : Nat → Prop} {a w w' : World} (h : Keep P a w) (hg : w.grownBy w' none) : Keep P a w' :=
  h.trans ⟨hg.os, hg.tape, hg.output, hg.size, fun k hk _ => hg.block k hk (fun e => by cases e)⟩
theorem Keep.blk {P : Nat → Prop} {w w' : World} (h : Keep P w w') {b : Nat} {vs : List Value} (hb : Blk w b vs) (hp : P b) : Blk w' b vs := hb.same (h.block b hb.lt hp) h.size
theorem Keep.below {P : Nat → Prop} {w w' : World} (h : Keep P w w') {B : Nat} (hB : B ≤ w.heap.size) (hp : ∀ b, b < B → P b) : Below B w w' :=
  ⟨h.os, h.tape, h.output, h.size, fun k hk => h.block k (Nat.lt_of_lt_of_le hk hB) (hp k hk)⟩
theorem Keep.of_below {P : Nat → Prop} {w w' : World} (h : Below w.heap.size w w') : Keep P w w' := ⟨h.os, h.tape, h.output, h.size, fun k hk _ => h.block k hk⟩

/-- The ring's three cells. -/
def ringV (bb m head n : Nat) : List Value := [.slice (some ⟨bb, 0, none⟩) m m, .int .i64 head, .int .i64 n]

/-- The ring's buffer: m pairs, of which the es.length from head on, round the end, are es. -/
structure RB (W : World) (bb m head : Nat) (es : List (Int × Int)) : Prop where
  lt : bb < W.heap.size
  room : ∀ o, o < 2 * m → ∃ u, W.cell? ⟨bb, o, none⟩ = some u
  free : ∀ o, o < 2 * m → W.frozen? ⟨bb, o, none⟩ = false
  ent : ∀ i, i < es.length → W.cell? ⟨bb, (head + i) % m * 2, none⟩ = some (.int .i64 (es.getD i (0, 0)).1) ∧ W.cell? ⟨bb, (head + i) % m * 2 + 1, none⟩ = some (.int .i64 (es.getD i (0, 0)).2)

theorem RB.same {W W' : World} {bb m head : Nat} {es : List (Int × Int)} (h : RB W bb m head es) (hb : W'.heap[bb]? = W.heap[bb]?) (hs : W.heap.size ≤ W'.heap.size) : RB W' bb m head es where
  lt := by have := h.lt; omega
  room o ho := by obtain ⟨u, hu⟩ := h.room o ho; exact ⟨u, (World.cell?_of_block (w := W) hb).trans hu⟩
  free o ho := (World.frozen?_of_block (w := W) hb).trans (h.free o ho)
  ent i hi := ⟨(World.cell?_of_block (w := W) hb).trans (h.ent i hi).1, (World.cell?_of_block (w := W) hb).trans (h.ent i hi).2⟩

theorem RB.keep {P : Nat → Prop} {w w' : World} {bb m head : Nat} {es : List (Int × Int)} (h : RB w bb m head es) (hk : Keep P w w') (hp : P bb) : RB w' bb m head es := h.same (hk.block bb h.lt hp) hk.size

theorem mod2 (x m : Nat) (h : x < 2 * m) : x % m = if x < m then x else x - m := by
  split
  · exact Nat.mod_eq_of_lt (by omega)
  · rw [Nat.mod_eq_sub_mod (by omega), Nat.mod_eq_of_lt (by omega)]

theorem RB.pop {W : World} {bb m head : Nat} {e : Int × Int} {es : List (Int × Int)} (h : RB W bb m head (e :: es)) (hh : head < m) (hn : es.length < m) : RB W bb m ((head + 1) % m) es where
  lt := h.lt
  room := h.room
  free := h.free
  ent i hi := by
    have := h.ent (i + 1) (by simpa using hi)
    have e1 : ((head + 1) % m + i) % m = (head + (i + 1)) % m := by rw [Nat.mod_add_mod]; congr 1; omega
    rw [e1]
    simpa using this

/-- One pair stored behind the last. -/
theorem RB.push {W : World} {bb m head : Nat} {es : List (Int × Int)} (h : RB W bb m head es) (hh : head < m) (hn : es.length < m) (s k : Int) :
    RB ((W.setCell ⟨bb, (head + es.length) % m * 2, none⟩ (.int .i64 s)).setCell ⟨bb, (head + es.length) % m * 2 + 1, none⟩ (.int .i64 k)) bb m head (es ++ [(s, k)]) := by
  have hq : (head + es.length) % m < m := Nat.mod_lt _ (by omega)
  have hne : ∀ i, i < es.length → (head + i) % m ≠ (head + es.length) % m := fun i hi => by
    rw [mod2 _ _ (by omega), mod2 _ _ (by omega)]
    split <;> split <;> omega
  generalize hqq : (head + es.length) % m = q at *
  have ot : ∀ o, o ≠ q * 2 → o ≠ q * 2 + 1 → ((W.setCell ⟨bb, q * 2, none⟩ (.int .i64 s)).setCell ⟨bb, q * 2 + 1, none⟩ (.int .i64 k)).cell? ⟨bb, o, none⟩ = W.cell? ⟨bb, o, none⟩ := fun o h1 h2 => by
    rw [World.cell?_setCell_other _ _ _ _ (fun e => h2 (congrArg Addr.off e).symm), World.cell?_setCell_other _ _ _ _ (fun e => h1 (congrArg Addr.off e).symm)]
  obtain ⟨u0, hu0⟩ := h.room (q * 2) (by omega)
  obtain ⟨u1, hu1⟩ := h.room (q * 2 + 1) (by omega)
  have c1 : ((W.setCell ⟨bb, q * 2, none⟩ (.int .i64 s)).setCell ⟨bb, q * 2 + 1, none⟩ (.int .i64 k)).cell? ⟨bb, q * 2 + 1, none⟩ = some (.int .i64 k) :=
    World.cell?_setCell_same _ _ _ ((World.cell?_setCell_other _ _ _ _ (fun e => by have := congrArg Addr.off e; simp at this)).trans hu1)
  have c0 : ((W.setCell ⟨bb, q * 2, none⟩ (.int .i64 s)).setCell ⟨bb, q * 2 + 1, none⟩ (.int .i64 k)).cell? ⟨bb, q * 2, none⟩ = some (.int .i64 s) := by
    rw [World.cell?_setCell_other _ _ _ _ (fun e => by have := congrArg Addr.off e; simp at this)]
    exact World.cell?_setCell_same _ _ _ hu0
  refine ⟨by have := h.lt; simpa [World.setCell] using this, fun o ho => ?_, fun o ho => by rw [World.frozen?_setCell, World.frozen?_setCell]; exact h.free o ho, fun i hi => ?_⟩
  · by_cases e0 : o = q * 2
    · subst e0; exact ⟨_, c0⟩
    · by_cases e1 : o = q * 2 + 1
      · subst e1; exact ⟨_, c1⟩
      · rw [ot o e0 e1]; exact h.room o ho
  · by_cases e : i < es.length
    · have hn' := hne i e
      have := h.ent i e
      rw [ot _ (by omega) (by omega), ot _ (by omega) (by omega)]
      simpa [List.getD, List.getElem?_append_left e] using this
    · obtain rfl : i = es.length := by simp at hi; omega
      rw [hqq, c0, c1]
      simp

theorem and_i64 (x y : Nat) (hx : x < 4611686018427387904) (hy : y < 4611686018427387904) : bits .and .i64 (x : Int) (y : Int) = ((x &&& y : Nat) : Int) := by
  have hl : x &&& y ≤ x := Nat.and_le_left
  show IntKind.i64.wrap ((BitVec.ofInt 64 (x : Int) &&& BitVec.ofInt 64 (y : Int)).toNat : Int) = _
  rw [BitVec.toNat_and, ofInt_u64 x (by omega), ofInt_u64 y (by omega), IntKind.wrap_i64]
  omega

theorem ring_and (x m : Nat) (hm : ∃ e, m = 2 ^ e) (hm1 : 1 ≤ m) (hm2 : m ≤ 10000) (hx : x < 100000) : bits .and .i64 (x : Int) ((m : Int) - 1) = ((x % m : Nat) : Int) := by
  obtain ⟨e, rfl⟩ := hm
  rw [show ((2 ^ e : Nat) : Int) - 1 = ((2 ^ e - 1 : Nat) : Int) by omega, and_i64 x _ (by omega) (by omega), Nat.and_two_pow_sub_one_eq_mod]

set_option maxHeartbeats 1000000 in
theorem front_any (rb bb m head : Nat) (e : Int × Int) (es : List (Int × Int)) (hm : m ≤ 10000) (hh : head < m) (w : World) (hr : Blk w rb (ringV bb m head (es.length + 1))) (hb : RB w bb m head (e :: es)) :
    Calls Try.prog 28 #[.pointer (some ⟨rb, 0, none⟩)] w fun r w' => r = .returned (.agg #[.int .i64 e.1, .int .i64 e.2]) ∧ Below w.heap.size w w' := by
  have r0 := hr.cell 0 _ rfl
  have r1 := hr.cell 1 _ rfl
  have lr := hr.lt
  have lb := hb.lt
  obtain ⟨b0, b1⟩ := hb.ent 0 (by simp)
  have e0 : (head + 0) % m = head := Nat.mod_eq_of_lt hh
  rw [e0] at b0 b1
  simp only [List.getD_cons_zero] at b0 b1
  obtain ⟨x, y⟩ := e
  simp only [] at b0 b1 ⊢
  clear hr hb
  go_enter Try.func28, Try.ntmps28
  go_wp2
  go_region
  go_wp2
  exact bodyPost_ret (v := .agg #[.int .i64 x, .int .i64 y]) (by simp [results, Try.results28, go_sem]) rfl ⟨rfl, ((Below.refl _ _).alloc (Nat.le_refl _) _).drew⟩

theorem clear_any (rb bb m head n : Nat) (w : World) (hr : Blk w rb (ringV bb m head n)) :
    Calls Try.prog 27 #[.pointer (some ⟨rb, 0, none⟩)] w fun e w' => e = .returned (.tuple #[]) ∧ Blk w' rb (ringV bb m 0 0) ∧ Keep (· ≠ rb) w w' := by
  have r1 := hr.cell 1 _ rfl
  have r2 := hr.cell 2 _ rfl
  have f1 := hr.free 1 (by simp [ringV])
  have f2 := hr.free 2 (by simp [ringV])
  have HR := hideP hr
  clear hr
  go_enter Try.func27, Try.ntmps27
  go_wp2
  first | (refine bodyPost_ret (results_none rfl _ _ _) rfl ?_) | (refine bodyPost_end (results_none rfl _ _ _) rfl ?_)
  exact ⟨rfl, (HR.out.set 1 (by simp [ringV]) _).set 2 (by simp [ringV]) _, ((Keep.refl _ _).set _ _ _ (by simp)).set _ _ _ (by simp)⟩

set_option maxHeartbeats 1000000 in
theorem pop_any (rb bb m head n : Nat) (hm : m ≤ 10000) (hp : ∃ e, m = 2 ^ e) (hh : head < m) (hn : 1 ≤ n) (hn2 : n ≤ m) (w : World) (hr : Blk w rb (ringV bb m head n)) :
    Calls Try.prog 29 #[.pointer (some ⟨rb, 0, none⟩)] w fun e w' => e = .returned (.tuple #[]) ∧ Blk w' rb (ringV bb m ((head + 1) % m) (n - 1)) ∧ Keep (· ≠ rb) w w' := by
  have r0 := hr.cell 0 _ rfl
  have r1 := hr.cell 1 _ rfl
  have r2 := hr.cell 2 _ rfl
  have f1 := hr.free 1 (by simp [ringV])
  have f2 := hr.free 2 (by simp [ringV])
  have HR := hideP hr
  have HA := hideP (ring_and (head + 1) m hp (by omega) hm (by omega))
  clear hr hp
  go_enter Try.func29, Try.ntmps29
  go_wp2
  go_region
  go_wp2
  first | (refine bodyPost_ret (results_none rfl _ _ _) rfl ?_) | (refine bodyPost_end (results_none rfl _ _ _) rfl ?_)
  have e1 : ((head : Int) + 1) = ((head + 1 : Nat) : Int) := by omega
  rw [e1, HA.out, show (n : Int) - 1 = ((n - 1 : Nat) : Int) by omega]
  exact ⟨rfl, ((HR.out.set 1 (by simp [ringV]) _).set 2 (by simp [ringV]) _).drew 1, (((Keep.refl _ _).set _ _ _ (by simp)).set _ _ _ (by simp)).drew⟩
end Go.Proofs.Qxb6608745a
