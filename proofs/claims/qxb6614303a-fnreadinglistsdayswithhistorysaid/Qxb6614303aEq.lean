import Derived.Test.Qxb6614303aSmall
import Derived.Laws.StructEq
import Derived.Laws.Pointers
namespace Go.Proofs.Qxb6614303a
open Go.RowKit Go.Sort
set_option linter.unusedVariables false

theorem time_eq_iff (n m : Int) : (n % 1000000000 = m % 1000000000 ∧ n / 1000000000 = m / 1000000000) ↔ n = m := by omega

/-- '==' between two instants. -/
theorem run_eql_time (r q r' q' : Int) (w : World) : (binOp .eql 48 (.agg #[.int .u64 r, .int .i64 q, .pointer none]) (.agg #[.int .u64 r', .int .i64 q', .pointer none])).run Try.prog w = .ok (.bool (decide (r = r' ∧ q = q'))) w := by
  have u1 := Try.underlying45
  have u2 := Try.underlying2
  have u3 := Try.underlying46
  have hS : Try.prog.underlying 48 = some (.struct (Try.prog.fieldsOf 48)) := by kernel_rfl
  have hp : Try.prog.stoodInHeld 48 = false := by kernel_rfl
  have hpt : Try.prog.underlying 46 = some (.pointer (Try.prog.pointee 46)) := by kernel_rfl
  rw [run_eql_struct, show (10000 : Nat) = 9999 + 1 from rfl, run_equalIn_agg w 9999 48 _ _ hS hp]
  have hnn : ∀ W : World, (Op.equalIn 9999 46 (.pointer none) (.pointer none)).run Try.prog W = .ok true W := fun W => run_equalIn_pointer_nil W 9998 46 none hpt
  simp only [Program.fieldsOf, Try.underlying48]
  go_simp
  by_cases h1 : r = r' <;> by_cases h2 : q = q' <;> simp [h1, h2]

theorem guard_time (op : BinOp) (a b : Operand) (xs ys : Array Value) (w : World) : (eqGuard op 48 a b (.agg xs) (.agg ys)).run Try.prog w = .ok () w := run_eqGuard_agg w op 48 a b xs ys (by kernel_rfl)

/-- A row of one-cell elements at the head of block b; those at the places D hold f's values. -/
structure Row1 (W : World) (b n : Nat) (f : Nat → Value) (D : Nat → Prop) : Prop where
  lt : b < W.heap.size
  room : ∀ o, o < n → ∃ u, W.cell? ⟨b, o, none⟩ = some u
  free : ∀ o, o < n → W.frozen? ⟨b, o, none⟩ = false
  done : ∀ i, i < n → D i → W.cell? ⟨b, i, none⟩ = some (f i)

theorem Row1.same {W W' : World} {b n : Nat} {f : Nat → Value} {D : Nat → Prop} (h : Row1 W b n f D) (hb : W'.heap[b]? = W.heap[b]?) (hs : W.heap.size ≤ W'.heap.size) : Row1 W' b n f D where
  lt := by have := h.lt; omega
  room o ho := by obtain ⟨u, hu⟩ := h.room o ho; exact ⟨u, (World.cell?_of_block (w := W) hb).trans hu⟩
  free o ho := (World.frozen?_of_block (w := W) hb).trans (h.free o ho)
  done i hi hd := (World.cell?_of_block (w := W) hb).trans (h.done i hi hd)

theorem Row1.below {W W' : World} {b n B : Nat} {f : Nat → Value} {D : Nat → Prop} (h : Row1 W b n f D) (hb : Below B W W') (hB : b < B) : Row1 W' b n f D :=
  h.same (hb.block b hB) hb.size

theorem Row1.mono {W : World} {b n : Nat} {f : Nat → Value} {D D' : Nat → Prop} (h : Row1 W b n f D) (hd : ∀ i, i < n → D' i → D i) : Row1 W b n f D' :=
  ⟨h.lt, h.room, h.free, fun i hi h2 => h.done i hi (hd i hi h2)⟩

/-- One store: what the row holds behind it. -/
theorem Row1.store {W : World} {b n : Nat} {f : Nat → Value} {D : Nat → Prop} (h : Row1 W b n f D) (j : Nat) (hj : j < n) (x : Value) :
    Row1 (W.setCell ⟨b, j, none⟩ x) b n (fun i => if i = j then x else f i) (fun i => i = j ∨ D i) := by
  have ot : ∀ i, i ≠ j → (W.setCell ⟨b, j, none⟩ x).cell? ⟨b, i, none⟩ = W.cell? ⟨b, i, none⟩ := fun i hi => World.cell?_setCell_other _ _ _ _ (fun e => hi (congrArg Addr.off e).symm)
  obtain ⟨u, hu⟩ := h.room j hj
  have sm : (W.setCell ⟨b, j, none⟩ x).cell? ⟨b, j, none⟩ = some x := World.cell?_setCell_same _ _ _ hu
  refine ⟨by have := h.lt; simpa [World.setCell] using this, fun o ho => ?_, fun o ho => by rw [World.frozen?_setCell]; exact h.free o ho, fun i hi hd => ?_⟩
  · by_cases e : o = j
    · subst e; exact ⟨_, sm⟩
    · rw [ot o e]; exact h.room o ho
  · by_cases e : i = j
    · subst e; rw [if_pos rfl]; exact sm
    · rw [ot i e, if_neg e]; exact h.done i hi (hd.resolve_left e)

theorem Row1.congr {W : World} {b n : Nat} {f f' : Nat → Value} {D : Nat → Prop} (h : Row1 W b n f D) (hf : ∀ i, i < n → D i → f i = f' i) : Row1 W b n f' D :=
  ⟨h.lt, h.room, h.free, fun i hi hd => (hf i hi hd) ▸ h.done i hi hd⟩

/-- A made row of zero values. -/
theorem Row1.made {W : World} {base e g n cap : Nat} {z : Value} (h : W.ownsRow base e 1 (.slice (some ⟨g, 0, none⟩) n cap) n (madeCells #[z] (n * 1)).toList) : Row1 W g n (fun _ => z) (fun _ => True) := by
  have hc : ∀ j, j < n → W.cell? ⟨g, j, none⟩ = some z := fun j hj => by
    rw [h.cellAt j (by omega), toList_madeCells_one]
    simp [hj]
  have hf : ∀ j, j < n → W.frozen? ⟨g, j, none⟩ = false := fun j hj => h.frozenAt j
  rcases h.2 with ⟨h1, _⟩ | ⟨g', cap', cur, h1, hg, hh, _⟩
  · simp at h1
  · simp at h1
    obtain ⟨rfl, rfl⟩ := h1
    exact ⟨lt_of_block hh, fun o ho => ⟨z, hc o ho⟩, hf, fun i hi _ => hc i hi⟩
end Go.Proofs.Qxb6614303a
