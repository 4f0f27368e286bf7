/-
  No cell of these rows narrows 'for every input' (looked for: loops, veiled, ifaces, maps, wideKeys, modest, calm, conditions, laid).
  DERIVED. THE GIVEN ROWS OF THIS SEAT. 4 by the template 'for every input the law returns true; each argument reads behind the call as it read before'; 0 by the template 'total and deterministic' (their statements: Qxb6608745aTotals.lean).
  GIVEN WITH THE SEED: the statements are not yours to turn. If you find one false, say at which input.
  Laid BY PROGRAM, IN A SANDBOX (cutbox-rows.mjs): the forced cells as the released guide's own fill.sh prints them over the translation aeb5dab458884037… (all of the seat's roots in one cut). By AI agents, Wed Nov 11 2026. No macro, syntax, notation, axiom, sorry.
-/
import Derived.Test.Qxb6608745aChecked
import GoSem.Claim
import GoSem.ClaimJoined
import GoSem.ClaimMapViews
import Derived.JoinedTies
import Derived.KernelRfl
namespace Go.Proofs.Qxb6608745a
/- THE CELL 'sum', in the pinned program and in every row, IS THE sha256 OF THE DUMP (.gsa) THAT Qxb6608745aProg.lean LOADS. Nothing in Lean hashes anything: it is a label: what it is worth is what the hold of that sum in a sandbox is worth. -/
noncomputable def Try.pinned : Pinned := { name := "qxb6608745a", sum := "aeb5dab4588840379f1b8fa22c8adbcce26a235d29d0363fb43224720d4cdf33", checked := Try.checked }
namespace Rows
def none {H : Type} : Left H := { results := [], args := [] }

/-- 'zzlaws_root_b1.FnEndsControlStringLeavesOpenOnlyAtBel': WHATEVER THE INPUT: true; the input reads as it did. -/
def fnEndsControlStringLeavesOpenOnlyAtBelSpec : ChangeSpec := { name := "fnEndsControlStringLeavesOpenOnlyAtBel", fn := fun _ => fun
  | [d] => { results := [.lit (.bool true)], args := [d] }
  | _ => none }
def fnEndsControlStringLeavesOpenOnlyAtBelRow : OpenClaim := { program := "qxb6608745a", sum := "aeb5dab4588840379f1b8fa22c8adbcce26a235d29d0363fb43224720d4cdf33", func := "example.com/sluicegate/sluicegate/zzlaws_root_b1.FnEndsControlStringLeavesOpenOnlyAtBel", spec := "fnEndsControlStringLeavesOpenOnlyAtBel", apart := false }
def FnEndsControlStringLeavesOpenOnlyAtBelSaid : Prop := fnEndsControlStringLeavesOpenOnlyAtBelRow.holds Try.pinned (OpenSpec.ofChange fnEndsControlStringLeavesOpenOnlyAtBelSpec)

/-- ITS FALSE NEIGHBOUR: 'it returns false'. Refute it at one input. -/
def fnEndsControlStringLeavesOpenOnlyAtBelWrong : ChangeSpec := { name := "fnEndsControlStringLeavesOpenOnlyAtBel", fn := fun _ => fun
  | [d] => { results := [.lit (.bool false)], args := [d] }
  | _ => none }
def FnEndsControlStringLeavesOpenOnlyAtBelWrongFalsely : Prop := fnEndsControlStringLeavesOpenOnlyAtBelRow.holds Try.pinned (OpenSpec.ofChange fnEndsControlStringLeavesOpenOnlyAtBelWrong)

/-- 'zzlaws_root_b1.FnEndsControlStringSplitsByteAndOpener': WHATEVER THE INPUT: true; the input reads as it did. -/
def fnEndsControlStringSplitsByteAndOpenerSpec : ChangeSpec := { name := "fnEndsControlStringSplitsByteAndOpener", fn := fun _ => fun
  | [d1, d2] => { results := [.lit (.bool true)], args := [d1, d2] }
  | _ => none }
def fnEndsControlStringSplitsByteAndOpenerRow : OpenClaim := { program := "qxb6608745a", sum := "aeb5dab4588840379f1b8fa22c8adbcce26a235d29d0363fb43224720d4cdf33", func := "example.com/sluicegate/sluicegate/zzlaws_root_b1.FnEndsControlStringSplitsByteAndOpener", spec := "fnEndsControlStringSplitsByteAndOpener", apart := false }
def FnEndsControlStringSplitsByteAndOpenerSaid : Prop := fnEndsControlStringSplitsByteAndOpenerRow.holds Try.pinned (OpenSpec.ofChange fnEndsControlStringSplitsByteAndOpenerSpec)

/-- ITS FALSE NEIGHBOUR: 'it returns false'. Refute it at one input. -/
def fnEndsControlStringSplitsByteAndOpenerWrong : ChangeSpec := { name := "fnEndsControlStringSplitsByteAndOpener", fn := fun _ => fun
  | [d1, d2] => { results := [.lit (.bool false)], args := [d1, d2] }
  | _ => none }
def FnEndsControlStringSplitsByteAndOpenerWrongFalsely : Prop := fnEndsControlStringSplitsByteAndOpenerRow.holds Try.pinned (OpenSpec.ofChange fnEndsControlStringSplitsByteAndOpenerWrong)

/-- 'zzlaws_root_b1.FnWindowDecideMatchesSpanCount': WHATEVER THE INPUT: true; the input reads as it did. -/
def fnWindowDecideMatchesSpanCountSpec : ChangeSpec := { name := "fnWindowDecideMatchesSpanCount", fn := fun _ => fun
  | [d1, d2, d3, d4] => { results := [.lit (.bool true)], args := [d1, d2, d3, d4] }
  | _ => none }
def fnWindowDecideMatchesSpanCountRow : OpenClaim := { program := "qxb6608745a", sum := "aeb5dab4588840379f1b8fa22c8adbcce26a235d29d0363fb43224720d4cdf33", func := "example.com/sluicegate/sluicegate/zzlaws_root_b1.FnWindowDecideMatchesSpanCount", spec := "fnWindowDecideMatchesSpanCount", inPlace := ["math/bits.Add64"], named := ["math/bits.divideError", "math/bits.overflowError"], apart := false }
def FnWindowDecideMatchesSpanCountSaid : Prop := fnWindowDecideMatchesSpanCountRow.holds Try.pinned (OpenSpec.ofChange fnWindowDecideMatchesSpanCountSpec)

/-- ITS FALSE NEIGHBOUR: 'it returns false'. Refute it at one input. -/
def fnWindowDecideMatchesSpanCountWrong : ChangeSpec := { name := "fnWindowDecideMatchesSpanCount", fn := fun _ => fun
  | [d1, d2, d3, d4] => { results := [.lit (.bool false)], args := [d1, d2, d3, d4] }
  | _ => none }
def FnWindowDecideMatchesSpanCountWrongFalsely : Prop := fnWindowDecideMatchesSpanCountRow.holds Try.pinned (OpenSpec.ofChange fnWindowDecideMatchesSpanCountWrong)

/-- 'zzlaws_root_b1.FnWindowDecideWaitIsExact': WHATEVER THE INPUT: true; the input reads as it did. -/
def fnWindowDecideWaitIsExactSpec : ChangeSpec := { name := "fnWindowDecideWaitIsExact", fn := fun _ => fun
  | [d1, d2, d3, d4, d5] => { results := [.lit (.bool true)], args := [d1, d2, d3, d4, d5] }
  | _ => none }
def fnWindowDecideWaitIsExactRow : OpenClaim := { program := "qxb6608745a", sum := "aeb5dab4588840379f1b8fa22c8adbcce26a235d29d0363fb43224720d4cdf33", func := "example.com/sluicegate/sluicegate/zzlaws_root_b1.FnWindowDecideWaitIsExact", spec := "fnWindowDecideWaitIsExact", inPlace := ["math/bits.Add64"], named := ["math/bits.divideError", "math/bits.overflowError"], apart := false }
def FnWindowDecideWaitIsExactSaid : Prop := fnWindowDecideWaitIsExactRow.holds Try.pinned (OpenSpec.ofChange fnWindowDecideWaitIsExactSpec)

/-- ITS FALSE NEIGHBOUR: 'it returns false'. Refute it at one input. -/
def fnWindowDecideWaitIsExactWrong : ChangeSpec := { name := "fnWindowDecideWaitIsExact", fn := fun _ => fun
  | [d1, d2, d3, d4, d5] => { results := [.lit (.bool false)], args := [d1, d2, d3, d4, d5] }
  | _ => none }
def FnWindowDecideWaitIsExactWrongFalsely : Prop := fnWindowDecideWaitIsExactRow.holds Try.pinned (OpenSpec.ofChange fnWindowDecideWaitIsExactWrong)

end Rows
end Go.Proofs.Qxb6608745a
