import Derived.Test.Qxb6613578aProg
import Derived.WalkKit
import Derived.WalkSpells
import Derived.WalkLawsBesides
import Derived.Below
namespace Go.Proofs.Qxb6613578a
open Go.RowKit
set_option linter.unusedVariables false

theorem hideP {p : Prop} (h : p) : Hid p := h

/-- A type name's four cells, a type parameter's three, a named type's eight. -/
def tnObj (pos : Int) (nm : ByteArray) : Obj := .cells #[.pointer none, .int .i64 pos, .string nm, .nilIface] 81

theorem newTypeName_any (pos : Int) (nm : ByteArray) (w : World) :
    Calls Try.prog 36 #[.int .i64 pos, .pointer none, .string nm, .nilIface] w fun e w' => e = .returned (.pointer (some ⟨w.heap.size, 0, none⟩)) ∧ w' = w.alloc (tnObj pos nm) := by
  go_enter Try.func36, Try.ntmps36
  go_wp2
  go_ret
  exact ⟨rfl, rfl⟩

theorem zznewTypeName_any (pos : Int) (nm : ByteArray) (w : World) :
    Calls Try.prog 27 #[.int .i64 pos, .string nm] w fun e w' => e = .returned (.pointer (some ⟨w.heap.size, 0, none⟩)) ∧ w' = w.alloc (tnObj pos nm) := by
  have H := hideP (newTypeName_any pos nm w)
  go_enter Try.func27, Try.ntmps27
  go_wp2_with fail
  refine H.out.mono ?_
  rintro e w1 ⟨rfl, rfl⟩
  go_wp2
  go_ret
  exact ⟨rfl, rfl⟩

def tpObj (b : Nat) (i : Int) : Obj := .cells #[.pointer (some ⟨b, 0, none⟩), .int .i64 i, .nilIface] 85

theorem zznewTypeParam_any (i : Int) (nm : ByteArray) (w : World) :
    Calls Try.prog 37 #[.string nm, .int .i64 i] w fun e w' => e = .returned (.pointer (some ⟨w.heap.size + 1, 0, none⟩)) ∧ w' = (w.alloc (tnObj 0 nm)).alloc (tpObj w.heap.size i) := by
  have H := hideP (newTypeName_any 0 nm w)
  go_enter Try.func37, Try.ntmps37
  go_wp2_with fail
  refine H.out.mono ?_
  rintro e w1 ⟨rfl, rfl⟩
  go_wp2
  go_ret
  exact ⟨rfl, rfl⟩
end Go.Proofs.Qxb6613578a
