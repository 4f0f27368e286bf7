import Derived.Test.Qxb6608745aPlain
import Derived.Below
namespace Go.Proofs.Qxb6608745a
open Go.RowKit
set_option linter.unusedVariables false

/-- Block b's first cells, none of them frozen. -/
structure Blk (W : World) (b : Nat) (vs : List Value) : Prop where
  lt : b < W.heap.size
  cell : ∀ i v, vs[i]? = some v → W.cell? ⟨b, i, none⟩ = some v
  free : ∀ i, i < vs.length → W.frozen? ⟨b, i, none⟩ = false

theorem Blk.same {W W' : World} {b : Nat} {vs : List Value} (h : Blk W b vs) (hb : W'.heap[b]? = W.heap[b]?) (hs : W.heap.size ≤ W'.heap.size) : Blk W' b vs where
  lt := by have := h.lt; omega
  cell i v hv := (World.cell?_of_block (w := W) hb).trans (h.cell i v hv)
  free i hi := (World.frozen?_of_block (w := W) hb).trans (h.free i hi)

theorem Blk.drew {W : World} {b : Nat} {vs : List Value} (h : Blk W b vs) (n : Nat) : Blk (W.drewN n) b vs := h.same rfl (Nat.le_refl _)

theorem Blk.below {W W' : World} {b B : Nat} {vs : List Value} (h : Blk W b vs) (hb : Below B W W') (hB : b < B) : Blk W' b vs := h.same (hb.block b hB) hb.size

theorem Blk.alloc {W : World} {b : Nat} {vs : List Value} (h : Blk W b vs) (o : Obj) : Blk (W.alloc o) b vs :=
  h.same (Below.heap_alloc W o b h.lt) (by simp)

theorem Blk.far {W : World} {b : Nat} {vs : List Value} (h : Blk W b vs) (c j : Nat) (x : Value) (hc : b ≠ c) : Blk (W.setCell ⟨c, j, none⟩ x) b vs :=
  h.same (Below.heap_setCell W _ x b hc) (by simp [World.setCell])

theorem Blk.set {W : World} {b : Nat} {vs : List Value} (h : Blk W b vs) (j : Nat) (hj : j < vs.length) (x : Value) : Blk (W.setCell ⟨b, j, none⟩ x) b (vs.set j x) where
  lt := by have := h.lt; simpa [World.setCell] using this
  cell i v hv := by
    by_cases e : i = j
    · subst e
      rw [List.getElem?_set_self hj] at hv
      have := h.cell i _ (List.getElem?_eq_getElem hj)
      rw [World.cell?_setCell_same _ _ _ this]
      exact hv
    · rw [List.getElem?_set_ne (fun h => e h.symm)] at hv
      rw [World.cell?_setCell_other _ _ _ _ (fun h => e (congrArg Addr.off h).symm)]
      exact h.cell i v hv
  free i hi := by rw [World.frozen?_setCell]; exact h.free i (by simpa using hi)

theorem Blk.new (w : World) (cs : Array Value) (T : TypeId) : Blk (w.alloc (.cells cs T)) w.heap.size cs.toList where
  lt := by simp
  cell i v hv := by rw [World.cell?_alloc_new]; simpa using hv
  free i hi := by simp

/-- A window's limit. -/
def lim (n L S : Nat) : List Value := [.int .i64 n, .int .i64 L, .int .i64 S]
/-- A window. -/
def win (c t s k : Int) (o : Value) : List Value := [.int .i64 c, .int .i64 t, .int .i64 s, .int .i64 k, o]

set_option maxHeartbeats 1000000 in
theorem gone_any (wb lb n L S : Nat) (c t s k slot : Int) (o : Value) (hc : In c) (hs : In slot) (hle : slot ≤ c) (hS : 1 ≤ S) (hS2 : S ≤ 9223372036854775807) (w : World)
    (hw : Blk w wb (win c t s k o)) (hl : Blk w lb (lim n L S)) :
    Calls Try.prog 26 #[.pointer (some ⟨wb, 0, none⟩), .pointer (some ⟨lb, 0, none⟩), .int .i64 slot] w fun e w' => e = .returned (.bool (decide ((S : Int) ≤ c - slot))) ∧ ∃ n, w' = w.drewN n := by
  have c0 := hw.cell 0 _ rfl
  have l2 := hl.cell 2 _ rfl
  have HD : Hid (IntKind.u64.wrap (IntKind.u64.wrap c - IntKind.u64.wrap slot) = c - slot) := by
    obtain ⟨h1, h2⟩ := hc
    obtain ⟨h3, h4⟩ := hs
    show _ = _
    simp only [IntKind.wrap_u64]; omega
  have hS64 : S < 18446744073709551616 := by omega
  clear hw hl hc hs hS2
  go_enter Try.func26, Try.ntmps26
  go_wp2
  go_quiet (fail)
  go_wp2
  go_ret
  rw [← HD.out]
  exact ⟨rfl, _, rfl⟩
end Go.Proofs.Qxb6608745a
