import Derived.Test.Qxb6614303aRow
import Derived.ProofKit
import Derived.SliceStrings
import Derived.OpenShut
namespace Go.Proofs.Qxb6614303a
open Go.ChangeShapes Go.WideShapes Go.ChangeAt Go.RowKit
set_option linter.unusedVariables false

section
variable {H : Type} {enc : TypeId × Value → H} {P : Program} {w : World} {base : Nat} {spare : Nat → Bool} {held : Bool}

theorem trod_float' {t : TypeId} {fuel : Nat} {cs : List Value} {x : DataW H × List MemPlace} (ht : P.underlying t = some (.float .f64)) (h : DataW.trod enc P w base spare held fuel t cs = some x) : ∃ b : Nat, cs = [.float .f64 b] ∧ x = (.lit (.float .f64 b), []) := by
  cases fuel with
  | zero => simp [DataW.trod] at h
  | succ n =>
    unfold DataW.trod at h
    rw [ht] at h
    split at h <;> simp_all

/-- The bits in a datum that is a float. -/
def fltOf (y : DataW H × List MemPlace) : Nat := match y.1 with | .lit (.float _ b) => b | _ => 0

theorem open_floats {t e : TypeId} {fuel : Nat} {cs : List Value} {x : DataW H × List MemPlace} (ht : P.underlying t = some (.slice e)) (he : P.underlying e = some (.float .f64)) (hc : P.cellsOf e = 1)
    (h : DataW.trod enc P w base spare held fuel t cs = some x) :
    (cs = [.slice none 0 0] ∧ x = (.nil, [])) ∨
    ∃ (a : Addr) (len cap : Nat) (fs : List Nat), cs = [.slice (some a) len cap] ∧ len ≤ cap ∧ cap ≤ maxLen ∧ fs.length = len ∧ (∀ i, i < len → w.cell? (a.add i) = some (.float .f64 (fs.getD i 0))) := by
  rcases DataW.trod_slice ht h with h0 | ⟨a, len, cap, elems, rest, n, _, rfl, rfl, hb, hl, hm, hlen, hel, hsp, hns⟩
  · exact Or.inl h0
  right
  refine ⟨a, len, cap, elems.map fltOf, rfl, hl, hm, by simp [hlen], fun i hi => ?_⟩
  have hi' : i < elems.length := by omega
  have hb' := hel i hi
  rw [List.getElem?_eq_getElem hi', hc, Nat.mul_one, Option.bind_eq_some_iff] at hb'
  obtain ⟨cs', hcs, hy⟩ := hb'
  obtain ⟨b, rfl, hx⟩ := trod_float' he hy
  have e1 : (elems.map fltOf).getD i 0 = b := by
    simp [List.getD, hi', hx, fltOf]
  rw [e1]
  exact cell_of_cells?_one hcs
end

/-- Cells at an address, as the walks want them. -/
theorem argRow_of {w : World} {a : Addr} {n : Nat} {f : Nat → Value} (h : ∀ i, i < n → w.cell? (a.add i) = some (f i)) : ArgRow w (some a) n f := by
  intro i hi
  obtain ⟨b, off, spot⟩ := a
  have hspot : spot = none := by simpa [Addr.add] using World.cell?_spot (h 0 (by omega))
  subst hspot
  have hc : ∀ j, j < n → w.cell? ⟨b, off + j, none⟩ = some (f j) := fun j hj => by rw [← add_plain]; exact h j hj
  exact ⟨b, off, rfl, World.block_lt_of_cell? _ _ (hc i hi), hc⟩

theorem argRow_nil {w : World} {a : Option Addr} {f : Nat → Value} : ArgRow w a 0 f := fun i hi => absurd hi (Nat.not_lt_zero _)

section
variable {H : Type} {enc : TypeId × Value → H} {P : Program} {w : World} {base : Nat} {spare : Nat → Bool} {held : Bool}

theorem view_ints {t e : TypeId} {a : Option Addr} {len cap : Nat} {x : DataW H × List MemPlace} (ht : P.underlying t = some (.slice e)) (he : P.underlying e = some (.int .i64)) (hc : P.cellsOf e = 1)
    (h : ∃ fuel, DataW.trod enc P w base spare held fuel t (Value.slice a len cap).cells.toList = some x) (hs : ∀ b, spare b = true) :
    ∃ ms : List Int, ms.length = len ∧ len ≤ maxLen ∧ ArgRow w a ms.length (fun i => .int .i64 (ms.getD i 0)) ∧ ∀ i, -9223372036854775808 ≤ ms.getD i 0 ∧ ms.getD i 0 ≤ 9223372036854775807 := by
  obtain ⟨fuel, hf⟩ := h
  rcases open_ints ht he hc hf with ⟨hcs, _⟩ | ⟨x, l, c, zs, hcs, _, hl, hm, hz, _, hcell, hwz⟩
  · simp [Value.cells] at hcs
    obtain ⟨rfl, rfl, rfl⟩ := hcs
    exact ⟨[], rfl, Nat.zero_le _, argRow_nil, fun i => by simp⟩
  · simp [Value.cells] at hcs
    obtain ⟨rfl, rfl, rfl⟩ := hcs
    rw [if_pos (hs _)] at hz
    have hlen : (zs.take len).length = len := by simp; omega
    have hget : ∀ i, i < len → (zs.take len).getD i 0 = zs.getD i 0 := fun i hi => by simp [List.getD, List.getElem?_take_of_lt hi]
    refine ⟨zs.take len, hlen, by omega, ?_, fun i => ?_⟩
    · rw [hlen]
      exact argRow_of fun i hi => by rw [hget i hi]; exact hcell i (by omega)
    · by_cases hi : i < len
      · rw [hget i hi]
        have hm' : zs.getD i 0 ∈ zs := by
          have : i < zs.length := by omega
          simp [List.getD, this]
        have := hwz _ hm'
        generalize zs.getD i 0 = y at this ⊢
        simp [Lit.wf, IntKind.min, IntKind.max, IntKind.bits, IntKind.signed] at this
        omega
      · have : (zs.take len).getD i 0 = 0 := by
          simp [List.getD, List.getElem?_eq_none (by omega : (zs.take len).length ≤ i)]
        rw [this]; omega

theorem view_strings {t e : TypeId} {a : Option Addr} {len cap : Nat} {x : DataW H × List MemPlace} (ht : P.underlying t = some (.slice e)) (he : P.underlying e = some .string) (hc : P.cellsOf e = 1)
    (h : ∃ fuel, DataW.trod enc P w base spare held fuel t (Value.slice a len cap).cells.toList = some x) (hs : ∀ b, spare b = true) :
    len ≤ maxLen ∧ ∃ ls : List ByteArray, ArgRow w a len (fun i => .string (ls.getD i ByteArray.empty)) := by
  obtain ⟨fuel, hf⟩ := h
  rcases open_strings ht he hc hf with ⟨hcs, _⟩ | ⟨x, l, c, ss, hcs, _, hl, hm, hz, _, hcell, _⟩
  · simp [Value.cells] at hcs
    obtain ⟨rfl, rfl, rfl⟩ := hcs
    exact ⟨Nat.zero_le _, [], argRow_nil⟩
  · simp [Value.cells] at hcs
    obtain ⟨rfl, rfl, rfl⟩ := hcs
    rw [if_pos (hs _)] at hz
    exact ⟨by omega, ss, argRow_of fun i hi => hcell i (by omega)⟩

theorem view_floats {t e : TypeId} {a : Option Addr} {len cap : Nat} {x : DataW H × List MemPlace} (ht : P.underlying t = some (.slice e)) (he : P.underlying e = some (.float .f64)) (hc : P.cellsOf e = 1)
    (h : ∃ fuel, DataW.trod enc P w base spare held fuel t (Value.slice a len cap).cells.toList = some x) :
    len ≤ maxLen ∧ ∃ fs : List Nat, ArgRow w a len (fun i => .float .f64 (fs.getD i 0)) := by
  obtain ⟨fuel, hf⟩ := h
  rcases open_floats ht he hc hf with ⟨hcs, _⟩ | ⟨x, l, c, fs, hcs, hl, hm, hz, hcell⟩
  · simp [Value.cells] at hcs
    obtain ⟨rfl, rfl, rfl⟩ := hcs
    exact ⟨Nat.zero_le _, [], argRow_nil⟩
  · simp [Value.cells] at hcs
    obtain ⟨rfl, rfl, rfl⟩ := hcs
    exact ⟨by omega, fs, argRow_of fun i hi => hcell i hi⟩
end
end Go.Proofs.Qxb6614303a
