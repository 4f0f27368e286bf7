import Derived.Test.Qxb6613578aNamed
namespace Go.Proofs.Qxb6613578a
open Go.RowKit
set_option linter.unusedVariables false

/-- A slice that came in: at each index the cell holds f's value. -/
def ArgRow (W : World) (a : Option Addr) (n : Nat) (f : Nat → Value) : Prop :=
  ∀ i, i < n → ∃ b off, a = some ⟨b, off, none⟩ ∧ b < W.heap.size ∧ ∀ j, j < n → W.cell? ⟨b, off + j, none⟩ = some (f j)

theorem ArgRow.below {B : Nat} {W W' : World} {a : Option Addr} {n : Nat} {f : Nat → Value} (h : ArgRow W a n f) (hb : Below B W W') (hB : B = W.heap.size) : ArgRow W' a n f := fun i hi => by
  obtain ⟨b, off, h1, h2, h3⟩ := h i hi
  exact ⟨b, off, h1, by have := hb.size; omega, fun j hj => (hb.cell (p := ⟨b, off + j, none⟩) (by rw [hB]; exact h2)).trans (h3 j hj)⟩

/-- The row of n type parameters in block g, the first k of them made. -/
structure Pars (W : World) (g n : Nat) (ls : List ByteArray) (k : Nat) : Prop where
  lt : g < W.heap.size
  room : ∀ o, o < n → ∃ u, W.cell? ⟨g, o, none⟩ = some u
  free : ∀ o, o < n → W.frozen? ⟨g, o, none⟩ = false
  done : ∀ i, i < k → ∃ p q, W.cell? ⟨g, i, none⟩ = some (.pointer (some ⟨p, 0, none⟩)) ∧ g < p ∧ p < W.heap.size ∧ g < q ∧ q < W.heap.size ∧
    W.cell? ⟨p, 0, none⟩ = some (.pointer (some ⟨q, 0, none⟩)) ∧ W.cell? ⟨q, 2, none⟩ = some (.string (ls.getD i ByteArray.empty))

theorem Pars.same {W W' : World} {g n k : Nat} {ls : List ByteArray} (h : Pars W g n ls k) (hb : ∀ b, g ≤ b → b < W.heap.size → W'.heap[b]? = W.heap[b]?) (hs : W.heap.size ≤ W'.heap.size) : Pars W' g n ls k where
  lt := by have := h.lt; omega
  room o ho := by obtain ⟨u, hu⟩ := h.room o ho; exact ⟨u, (World.cell?_of_block (w := W) (hb g (Nat.le_refl _) h.lt)).trans hu⟩
  free o ho := (World.frozen?_of_block (w := W) (hb g (Nat.le_refl _) h.lt)).trans (h.free o ho)
  done i hi := by
    obtain ⟨p, q, h1, h2, h3, h4, h5, h6, h7⟩ := h.done i hi
    exact ⟨p, q, (World.cell?_of_block (w := W) (hb g (Nat.le_refl _) h.lt)).trans h1, h2, by omega, h4, by omega, (World.cell?_of_block (w := W) (hb p (Nat.le_of_lt h2) h3)).trans h6, (World.cell?_of_block (w := W) (hb q (Nat.le_of_lt h4) h5)).trans h7⟩

theorem Pars.alloc {W : World} {g n k : Nat} {ls : List ByteArray} (h : Pars W g n ls k) (o : Obj) : Pars (W.alloc o) g n ls k :=
  h.same (fun b _ hb => Below.heap_alloc W o b hb) (by simp)

theorem Pars.put {W : World} {g n k : Nat} {ls : List ByteArray} (h : Pars W g n ls k) (hk : k < n) (p q : Nat) (h2 : g < p) (h3 : p < W.heap.size) (h4 : g < q) (h5 : q < W.heap.size)
    (h6 : W.cell? ⟨p, 0, none⟩ = some (.pointer (some ⟨q, 0, none⟩))) (h7 : W.cell? ⟨q, 2, none⟩ = some (.string (ls.getD k ByteArray.empty))) :
    Pars (W.setCell ⟨g, k, none⟩ (.pointer (some ⟨p, 0, none⟩))) g n ls (k + 1) := by
  have size : (W.setCell ⟨g, k, none⟩ (.pointer (some ⟨p, 0, none⟩))).heap.size = W.heap.size := by simp [World.setCell]
  have far : ∀ b o, b ≠ g → (W.setCell ⟨g, k, none⟩ (.pointer (some ⟨p, 0, none⟩))).cell? ⟨b, o, none⟩ = W.cell? ⟨b, o, none⟩ := fun b o hb =>
    World.cell?_setCell_other _ _ _ _ (fun e => hb (congrArg Addr.block e).symm)
  have oth : ∀ o, o ≠ k → (W.setCell ⟨g, k, none⟩ (.pointer (some ⟨p, 0, none⟩))).cell? ⟨g, o, none⟩ = W.cell? ⟨g, o, none⟩ := fun o ho =>
    World.cell?_setCell_other _ _ _ _ (fun e => ho (congrArg Addr.off e).symm)
  have here : (W.setCell ⟨g, k, none⟩ (.pointer (some ⟨p, 0, none⟩))).cell? ⟨g, k, none⟩ = some (.pointer (some ⟨p, 0, none⟩)) := by
    obtain ⟨u, hu⟩ := h.room k hk
    exact World.cell?_setCell_same _ _ _ hu
  refine ⟨by rw [size]; exact h.lt, fun o ho => ?_, fun o ho => by rw [World.frozen?_setCell]; exact h.free o ho, fun i hi => ?_⟩
  · by_cases e : o = k
    · subst e; exact ⟨_, here⟩
    · obtain ⟨u, hu⟩ := h.room o ho
      exact ⟨u, (oth o e).trans hu⟩
  · by_cases e : i = k
    · subst e
      exact ⟨p, q, here, h2, by rw [size]; exact h3, h4, by rw [size]; exact h5, (far p 0 (by omega)).trans h6, (far q 2 (by omega)).trans h7⟩
    · obtain ⟨p', q', g1, g2, g3, g4, g5, g6, g7⟩ := h.done i (by omega)
      exact ⟨p', q', (oth i e).trans g1, g2, by rw [size]; exact g3, g4, by rw [size]; exact g5, (far p' 0 (by omega)).trans g6, (far q' 2 (by omega)).trans g7⟩

/-- One round's world, ahead of its store. -/
def parMade (W : World) (k : Nat) (nm : ByteArray) : World := (W.alloc (tnObj 0 nm)).alloc (tpObj W.heap.size k)

theorem Pars.step {W : World} {g n k : Nat} {ls : List ByteArray} (h : Pars W g n ls k) (hk : k < n) : Pars ((parMade W k (ls.getD k ByteArray.empty)).setCell ⟨g, k, none⟩ (.pointer (some ⟨W.heap.size + 1, 0, none⟩))) g n ls (k + 1) := by
  have hl := h.lt
  have b1 := Blk.new W #[.pointer none, .int .i64 0, .string (ls.getD k ByteArray.empty), .nilIface] 81
  have b2 := Blk.new (W.alloc (tnObj 0 (ls.getD k ByteArray.empty))) #[.pointer (some ⟨W.heap.size, 0, none⟩), .int .i64 k, .nilIface] 85
  have e : (W.alloc (tnObj 0 (ls.getD k ByteArray.empty))).heap.size = W.heap.size + 1 := by simp
  rw [e] at b2
  have b3 : Blk (parMade W k (ls.getD k ByteArray.empty)) W.heap.size _ := b1.alloc (tpObj W.heap.size k)
  exact Pars.put ((h.alloc _).alloc _) hk (W.heap.size + 1) W.heap.size (by omega) b2.lt hl b3.lt (b2.cell 0 _ rfl) (b3.cell 2 _ rfl)

theorem parMade_below {B : Nat} {a W : World} (h : Below B a W) (k : Nat) (nm : ByteArray) (hB : B ≤ W.heap.size) : Below B a (parMade W k nm) :=
  (h.alloc hB _).alloc (by simp; omega) _

theorem info73 : (Try.prog.info? 73).map (fun i => (i.zero, i.size, i.bytes)) = some (some (.pointer none), 1, 8) := by kernel_rfl

theorem Pars.made {W : World} {base e g n cap : Nat} {xs : List Value} (h : W.ownsRow base e 1 (.slice (some ⟨g, 0, none⟩) n cap) n xs) (ls : List ByteArray) : Pars W g n ls 0 := by
  rcases h.2 with ⟨h1, _⟩ | ⟨g', cap', cur, h1, hg, hh, hn, hm, hs, ht⟩
  · simp at h1
  · simp at h1
    obtain ⟨rfl, rfl⟩ := h1
    refine ⟨(Array.getElem?_eq_some_iff.1 hh).1, fun o ho => ?_, fun o ho => by simp [World.frozen?, hh], fun i hi => absurd hi (Nat.not_lt_zero _)⟩
    have : o < cur.size := by rw [hs]; omega
    exact ⟨cur[o], by simp [World.cell?, hh, this]⟩

theorem pars_none (a : Option Addr) (c : Nat) (w : World) : Calls Try.prog 28 #[.slice a 0 c] w fun e w' => e = .returned (.tuple #[.slice none 0 0, .bool true]) ∧ w' = w := by
  go_enter Try.func28, Try.ntmps28
  go_wp2
  go_ret2
  exact ⟨rfl, rfl⟩

set_option maxHeartbeats 1000000 in
theorem pars_some (a : Option Addr) (n c : Nat) (ls : List ByteArray) (w : World) (hn : 0 < n) (hN : n ≤ 1048576) (A : ArgRow w a n (fun i => .string (ls.getD i ByteArray.empty))) :
    Calls Try.prog 28 #[.slice a n c] w fun e w' => e = .returned (.tuple #[.slice (some ⟨w.heap.size, 0, none⟩) n n, .bool true]) ∧ Pars w' w.heap.size n ls n ∧ Below w.heap.size w w' := by
  have HA := hideP A
  clear A
  have t1 : decide ((n : Int) = 0) = false := by rw [decide_eq_false_iff_not]; omega
  have t2 : decide (n = 0) = false := by rw [decide_eq_false_iff_not]; omega
  obtain ⟨i1, hi, hz0, hz1, hz2⟩ := info_parts info73
  go_enter Try.func28, Try.ntmps28
  go_wp2_with (at_make; refine wpList_make_full _ rfl _ _ 57 rfl w.heap.size 73 i1 _ 1 Try.underlying57 hi hz0 hz1 _ _ _ _ n rfl rfl rfl rfl (by rw [hz2]; omega) (by unfold maxLen; omega) (by simp) ?_; intro w1 hown hgr)
  have R0 : Hid (Pars w1 w.heap.size n ls 0) := Pars.made hown _
  have BB : Hid (Below w.heap.size w w1) := (Below.refl _ _).grown hgr (Nat.le_refl _) (fun k hk => by cases hk)
  clear hown hgr t1 t2
  go_loopw [5] (fun s5 wr => ∃ k : Nat, s5 = .int .i64 k ∧ k ≤ n ∧ Pars wr w.heap.size n ls k ∧ Below w.heap.size w wr) (fun s5 _ => n - (intOf s5).toNat)
  case atStart => exact ⟨0, rfl, Nat.zero_le _, R0.out, BB.out⟩
  case round =>
    clear R0 BB
    obtain ⟨k, rfl, hk, hR, hB⟩ := hrel
    have HR := hideP hR
    have HB := hideP hB
    clear hR hB
    by_cases hlt : k < n
    · obtain ⟨b0, o0, ha0, hb0, hc0⟩ := HA.out k hlt
      subst ha0
      have d0 : wr.cell? ⟨b0, o0 + k, none⟩ = some (.string (ls.getD k ByteArray.empty)) := (HB.out.cell (p := ⟨b0, o0 + k, none⟩) hb0).trans (hc0 k hlt)
      have HF := hideP (HR.out.step hlt)
      have HM := hideP (((HR.out.alloc (tnObj 0 (ls.getD k ByteArray.empty))).alloc (tpObj wr.heap.size k)))
      have HFB := hideP (parMade_below HB.out k (ls.getD k ByteArray.empty) (Nat.le_of_lt HR.out.lt))
      generalize ls.getD k ByteArray.empty = nm at d0 HF HFB HM
      have HC := hideP (zznewTypeParam_any k nm wr)
      have hsz := HR.out.lt
      have hkz : decide ((k : Int) < (n : Int)) = true := decide_eq_true (by omega)
      have hkn : decide (k < n) = true := decide_eq_true hlt
      have hkk : (k : Int) < (n : Int) := by omega
      clear hc0
      go_wp2_with fail
      refine HC.out.mono ?_
      rintro e w2 ⟨rfl, h2⟩
      have e2 : w2 = parMade wr k nm := h2
      clear h2 HC
      have HM2 : Hid (Pars w2 w.heap.size n ls k) := by rw [e2]; exact HM.out
      rw [← e2] at HF HFB
      obtain ⟨u, f0⟩ := HM2.out.room k hlt
      have z0 := HM2.out.free k hlt
      have hs2 := HM2.out.lt
      clear e2 HM d0
      go_wp2
      go_roundw
      case rel => exact ⟨k + 1, by go_num, by omega, HF.out, HFB.out.setCell (p := ⟨w.heap.size, k, none⟩) (Nat.le_refl _) _⟩
      case measure => simp [intOf]; omega
    · have ek : k = n := by omega
      subst ek
      go_wp2
      go_ret2
      exact ⟨rfl, HR.out, HB.out⟩
end Go.Proofs.Qxb6613578a
