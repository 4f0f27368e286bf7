import Derived.Test.Qxb6613578aPars
import Derived.ProofKit
import Derived.SliceStrings
import Derived.OpenShut
namespace Go.Proofs.Qxb6613578a
open Go.ChangeShapes Go.WideShapes Go.ChangeAt Go.RowKit
set_option linter.unusedVariables false

/-- Cells at an address, as the walks want them. -/
theorem argRow_of {w : World} {a : Addr} {n : Nat} {f : Nat → Value} (h : ∀ i, i < n → w.cell? (a.add i) = some (f i)) : ArgRow w (some a) n f := by
  intro i hi
  obtain ⟨b, off, spot⟩ := a
  have hspot : spot = none := by simpa [Addr.add] using World.cell?_spot (h 0 (by omega))
  subst hspot
  have hc : ∀ j, j < n → w.cell? ⟨b, off + j, none⟩ = some (f j) := fun j hj => by rw [← add_plain]; exact h j hj
  exact ⟨b, off, rfl, World.block_lt_of_cell? _ _ (hc i hi), hc⟩

theorem argRow_nil {w : World} {a : Option Addr} {f : Nat → Value} : ArgRow w a 0 f := fun i hi => absurd hi (Nat.not_lt_zero _)

section
variable {H : Type} {enc : TypeId × Value → H} {P : Program} {w : World} {base : Nat} {spare : Nat → Bool} {held : Bool}

theorem view_strings {t e : TypeId} {a : Option Addr} {len cap : Nat} {x : DataW H × List MemPlace} (ht : P.underlying t = some (.slice e)) (he : P.underlying e = some .string) (hc : P.cellsOf e = 1)
    (h : ∃ fuel, DataW.trod enc P w base spare held fuel t (Value.slice a len cap).cells.toList = some x) (hs : ∀ b, spare b = true) :
    len ≤ maxLen ∧ ∃ ls : List ByteArray, ArgRow w a len (fun i => .string (ls.getD i ByteArray.empty)) := by
  obtain ⟨fuel, hf⟩ := h
  rcases open_strings ht he hc hf with ⟨hcs, _⟩ | ⟨x, l, c, ss, hcs, _, hl, hm, hz, _, hcell, _⟩
  · simp [Value.cells] at hcs
    obtain ⟨rfl, rfl, rfl⟩ := hcs
    exact ⟨Nat.zero_le _, [], argRow_nil⟩
  · simp [Value.cells] at hcs
    obtain ⟨rfl, rfl, rfl⟩ := hcs
    rw [if_pos (hs _)] at hz
    exact ⟨by omega, ss, argRow_of fun i hi => hcell i (by omega)⟩

end
end Go.Proofs.Qxb6613578a
