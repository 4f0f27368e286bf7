import Derived.Test.Qxb6613578aMk
namespace Go.Proofs.Qxb6613578a
open Go.RowKit
set_option linter.unusedVariables false

/-- Block b's first cells, none of them frozen. -/
structure Blk (W : World) (b : Nat) (vs : List Value) : Prop where
  lt : b < W.heap.size
  cell : ∀ i v, vs[i]? = some v → W.cell? ⟨b, i, none⟩ = some v
  free : ∀ i, i < vs.length → W.frozen? ⟨b, i, none⟩ = false

theorem Blk.same {W W' : World} {b : Nat} {vs : List Value} (h : Blk W b vs) (hb : W'.heap[b]? = W.heap[b]?) (hs : W.heap.size ≤ W'.heap.size) : Blk W' b vs where
  lt := by have := h.lt; omega
  cell i v hv := (World.cell?_of_block (w := W) hb).trans (h.cell i v hv)
  free i hi := (World.frozen?_of_block (w := W) hb).trans (h.free i hi)

theorem Blk.drew {W : World} {b : Nat} {vs : List Value} (h : Blk W b vs) (n : Nat) : Blk (W.drewN n) b vs := h.same rfl (Nat.le_refl _)

theorem Blk.below {W W' : World} {b B : Nat} {vs : List Value} (h : Blk W b vs) (hb : Below B W W') (hB : b < B) : Blk W' b vs := h.same (hb.block b hB) hb.size

theorem Blk.alloc {W : World} {b : Nat} {vs : List Value} (h : Blk W b vs) (o : Obj) : Blk (W.alloc o) b vs :=
  h.same (Below.heap_alloc W o b h.lt) (by simp)

theorem Blk.far {W : World} {b : Nat} {vs : List Value} (h : Blk W b vs) (c j : Nat) (x : Value) (hc : b ≠ c) : Blk (W.setCell ⟨c, j, none⟩ x) b vs :=
  h.same (Below.heap_setCell W _ x b hc) (by simp [World.setCell])

theorem Blk.set {W : World} {b : Nat} {vs : List Value} (h : Blk W b vs) (j : Nat) (hj : j < vs.length) (x : Value) : Blk (W.setCell ⟨b, j, none⟩ x) b (vs.set j x) where
  lt := by have := h.lt; simpa [World.setCell] using this
  cell i v hv := by
    by_cases e : i = j
    · subst e
      rw [List.getElem?_set_self hj] at hv
      have := h.cell i _ (List.getElem?_eq_getElem hj)
      rw [World.cell?_setCell_same _ _ _ this]
      exact hv
    · rw [List.getElem?_set_ne (fun h => e h.symm)] at hv
      rw [World.cell?_setCell_other _ _ _ _ (fun h => e (congrArg Addr.off h).symm)]
      exact h.cell i v hv
  free i hi := by rw [World.frozen?_setCell]; exact h.free i (by simpa using hi)

theorem Blk.new (w : World) (cs : Array Value) (T : TypeId) : Blk (w.alloc (.cells cs T)) w.heap.size cs.toList where
  lt := by simp
  cell i v hv := by rw [World.cell?_alloc_new]; simpa using hv
  free i hi := by simp

/-- A type name's cells; a named type's cells. -/
def tn (pos : Int) (nm : ByteArray) (ty : Value) : List Value := [.pointer none, .int .i64 pos, .string nm, ty]

def nmd (ob : Nat) (tps : Value) : Array Value := #[.pointer (some ⟨ob, 0, none⟩), .nilIface, .nilFunc, tps, .slice none 0 0, .pointer none, .slice none 0 0, .slice none 0 0]
/-- The world behind the making of a named type over the type name at ob. -/
def named (w : World) (ob : Nat) (tps : Value) : World := (w.setCell ⟨ob, 3, none⟩ (.iface 60 (.pointer (some ⟨w.heap.size, 0, none⟩)))).alloc (.cells (nmd ob tps) 79)

theorem newNamed_any (ob : Nat) (pos : Int) (nm : ByteArray) (ty : Value) (w : World) (h : Blk w ob (tn pos nm ty)) :
    Calls Try.prog 33 #[.pointer (some ⟨ob, 0, none⟩)] w fun e w' => e = .returned (.pointer (some ⟨w.heap.size, 0, none⟩)) ∧ w' = named w ob (.slice none 0 0) := by
  have hlt := h.lt
  have c3 := h.cell 3 _ rfl
  have f3 := h.free 3 (by simp [tn])
  clear h
  go_enter Try.func33, Try.ntmps33
  go_wp2
  go_ret
  exact ⟨rfl, rfl⟩

theorem newGeneric_any (ob : Nat) (pos : Int) (nm : ByteArray) (ty : Value) (a : Option Addr) (n c : Nat) (w : World) (h : Blk w ob (tn pos nm ty)) :
    Calls Try.prog 38 #[.pointer (some ⟨ob, 0, none⟩), .slice a n c] w fun e w' => e = .returned (.pointer (some ⟨w.heap.size, 0, none⟩)) ∧ w' = named w ob (.slice a n c) := by
  have hlt := h.lt
  have c3 := h.cell 3 _ rfl
  have f3 := h.free 3 (by simp [tn])
  clear h
  go_enter Try.func38, Try.ntmps38
  go_wp2
  go_ret
  exact ⟨rfl, rfl⟩

/-- The two ways in one: with no parameters the slice is nil. -/
theorem namedOver_any (ob : Nat) (pos : Int) (nm : ByteArray) (ty : Value) (a : Option Addr) (n c : Nat) (w : World) (h : Blk w ob (tn pos nm ty)) (hn : n ≤ 1048576) (h0 : n = 0 → Value.slice a n c = .slice none 0 0) :
    Calls Try.prog 29 #[.pointer (some ⟨ob, 0, none⟩), .slice a n c] w fun e w' => e = .returned (.pointer (some ⟨w.heap.size, 0, none⟩)) ∧ w' = named w ob (.slice a n c) := by
  by_cases e : n = 0
  · have hv := h0 e
    rw [hv]
    have H := hideP (newNamed_any ob pos nm ty w h)
    clear h h0 hv hn
    go_enter Try.func29, Try.ntmps29
    go_wp2_with fail
    refine H.out.mono ?_
    rintro e w1 ⟨rfl, rfl⟩
    go_wp2
    go_ret
    exact ⟨rfl, rfl⟩
  · have H := hideP (newGeneric_any ob pos nm ty a n c w h)
    clear h h0
    have t1 : decide ((n : Int) = 0) = false := by rw [decide_eq_false_iff_not]; omega
    have t2 : decide (n = 0) = false := by rw [decide_eq_false_iff_not]; omega
    go_enter Try.func29, Try.ntmps29
    go_wp2_with fail
    refine H.out.mono ?_
    rintro e w1 ⟨rfl, rfl⟩
    go_wp2
    go_ret
    exact ⟨rfl, rfl⟩

theorem typeParams_any (nb ob : Nat) (tps : Value) (w : World) (h : Blk w nb (nmd ob tps).toList) :
    Calls Try.prog 31 #[.pointer (some ⟨nb, 0, none⟩)] w fun e w' => e = .returned tps ∧ w' = w := by
  have c3 := h.cell 3 _ rfl
  clear h
  go_enter Try.func31, Try.ntmps31
  go_wp2
  go_ret
  exact ⟨rfl, rfl⟩

theorem type_any (ob : Nat) (pos : Int) (nm : ByteArray) (ty : Value) (w : World) (h : Blk w ob (tn pos nm ty)) :
    Calls Try.prog 40 #[.pointer (some ⟨ob, 0, none⟩)] w fun e w' => e = .returned ty ∧ w' = w := by
  have c3 := h.cell 3 _ rfl
  clear h
  go_enter Try.func40, Try.ntmps40
  go_wp2
  go_ret
  exact ⟨rfl, rfl⟩

theorem as60 (v : Value) (W : World) : Sem.run Try.prog (Instr.typeAssert (.iface 60 v) 37 60 true) W = .ok (.tuple #[v, .bool true]) W := by kernel_rfl

theorem namedOf_any (ob nb : Nat) (pos : Int) (nm : ByteArray) (w : World) (h : Blk w ob (tn pos nm (.iface 60 (.pointer (some ⟨nb, 0, none⟩))))) :
    Calls Try.prog 34 #[.pointer (some ⟨ob, 0, none⟩)] w fun e w' => e = .returned (.pointer (some ⟨nb, 0, none⟩)) ∧ w' = w := by
  have H := hideP (type_any ob pos nm _ w h)
  have c3 := h.cell 3 _ rfl
  clear h
  have hA := as60 (.pointer (some ⟨nb, 0, none⟩))
  go_enter Try.func34, Try.ntmps34
  go_wp2_with fail
  refine H.out.mono ?_
  rintro e w1 ⟨rfl, rfl⟩
  go_wp2
  go_ret
  exact ⟨rfl, rfl⟩

theorem string_any (tb ob : Nat) (nm : ByteArray) (w : World) (h1 : w.cell? ⟨tb, 0, none⟩ = some (.pointer (some ⟨ob, 0, none⟩))) (h2 : w.cell? ⟨ob, 2, none⟩ = some (.string nm)) :
    Calls Try.prog 39 #[.pointer (some ⟨tb, 0, none⟩)] w fun e w' => e = .returned (.string nm) ∧ w' = w := by
  go_enter Try.func39, Try.ntmps39
  go_wp2
  go_ret
  exact ⟨rfl, rfl⟩
end Go.Proofs.Qxb6613578a
