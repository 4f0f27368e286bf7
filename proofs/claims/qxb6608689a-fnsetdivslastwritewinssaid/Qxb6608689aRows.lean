/-
  No cell of these rows narrows 'for every input' (looked for: loops, veiled, ifaces, maps, wideKeys, modest, calm, conditions, laid).
  DERIVED. THE GIVEN ROWS OF THIS SEAT. 4 by the template 'for every input the law returns true; each argument reads behind the call as it read before'; 0 by the template 'total and deterministic' (their statements: Qxb6608689aTotals.lean).
  GIVEN WITH THE SEED: the statements are not yours to turn. If you find one false, say at which input.
  Laid BY PROGRAM, IN A SANDBOX (cutbox-rows.mjs): the forced cells as the released guide's own fill.sh prints them over the translation a7c43af20f0ccbd8… (all of the seat's roots in one cut). By AI agents, Wed Nov 11 2026. No macro, syntax, notation, axiom, sorry.
-/
import Derived.Test.Qxb6608689aChecked
import GoSem.Claim
import GoSem.ClaimJoined
import GoSem.ClaimMapViews
import Derived.JoinedTies
import Derived.KernelRfl
namespace Go.Proofs.Qxb6608689a
/- THE CELL 'sum', in the pinned program and in every row, IS THE sha256 OF THE DUMP (.gsa) THAT Qxb6608689aProg.lean LOADS. Nothing in Lean hashes anything: it is a label: what it is worth is what the hold of that sum in a sandbox is worth. -/
noncomputable def Try.pinned : Pinned := { name := "qxb6608689a", sum := "a7c43af20f0ccbd821bff4b65ff7f0bd7d1d36506fcaeb00a61bef95ce99b851", checked := Try.checked }
namespace Rows
def none {H : Type} : Left H := { results := [], args := [] }

/-- 'zzlaws_root_b1.FnLabelParentIsLongestOddPrefix': WHATEVER THE INPUT: true; the input reads as it did. -/
def fnLabelParentIsLongestOddPrefixSpec : ChangeSpec := { name := "fnLabelParentIsLongestOddPrefix", fn := fun _ => fun
  | [d] => { results := [.lit (.bool true)], args := [d] }
  | _ => none }
def fnLabelParentIsLongestOddPrefixRow : OpenClaim := { program := "qxb6608689a", sum := "a7c43af20f0ccbd821bff4b65ff7f0bd7d1d36506fcaeb00a61bef95ce99b851", func := "example.com/branchlock/branchlock/zzlaws_root_b1.FnLabelParentIsLongestOddPrefix", spec := "fnLabelParentIsLongestOddPrefix", apart := false }
def FnLabelParentIsLongestOddPrefixSaid : Prop := fnLabelParentIsLongestOddPrefixRow.holds Try.pinned (OpenSpec.ofChange fnLabelParentIsLongestOddPrefixSpec)

/-- ITS FALSE NEIGHBOUR: 'it returns false'. Refute it at one input. -/
def fnLabelParentIsLongestOddPrefixWrong : ChangeSpec := { name := "fnLabelParentIsLongestOddPrefix", fn := fun _ => fun
  | [d] => { results := [.lit (.bool false)], args := [d] }
  | _ => none }
def FnLabelParentIsLongestOddPrefixWrongFalsely : Prop := fnLabelParentIsLongestOddPrefixRow.holds Try.pinned (OpenSpec.ofChange fnLabelParentIsLongestOddPrefixWrong)

/-- 'zzlaws_root_b1.FnLabelParentOfJoinedLabels': WHATEVER THE INPUT: true; the input reads as it did. -/
def fnLabelParentOfJoinedLabelsSpec : ChangeSpec := { name := "fnLabelParentOfJoinedLabels", fn := fun _ => fun
  | [d1, d2] => { results := [.lit (.bool true)], args := [d1, d2] }
  | _ => none }
def fnLabelParentOfJoinedLabelsRow : OpenClaim := { program := "qxb6608689a", sum := "a7c43af20f0ccbd821bff4b65ff7f0bd7d1d36506fcaeb00a61bef95ce99b851", func := "example.com/branchlock/branchlock/zzlaws_root_b1.FnLabelParentOfJoinedLabels", spec := "fnLabelParentOfJoinedLabels", apart := false }
def FnLabelParentOfJoinedLabelsSaid : Prop := fnLabelParentOfJoinedLabelsRow.holds Try.pinned (OpenSpec.ofChange fnLabelParentOfJoinedLabelsSpec)

/-- ITS FALSE NEIGHBOUR: 'it returns false'. Refute it at one input. -/
def fnLabelParentOfJoinedLabelsWrong : ChangeSpec := { name := "fnLabelParentOfJoinedLabels", fn := fun _ => fun
  | [d1, d2] => { results := [.lit (.bool false)], args := [d1, d2] }
  | _ => none }
def FnLabelParentOfJoinedLabelsWrongFalsely : Prop := fnLabelParentOfJoinedLabelsRow.holds Try.pinned (OpenSpec.ofChange fnLabelParentOfJoinedLabelsWrong)

/-- 'zzlaws_root_b1.FnSetDivsLastWriteWins': WHATEVER THE INPUT: true; the input reads as it did. -/
def fnSetDivsLastWriteWinsSpec : ChangeSpec := { name := "fnSetDivsLastWriteWins", fn := fun _ => fun
  | [d1, d2] => { results := [.lit (.bool true)], args := [d1, d2] }
  | _ => none }
def fnSetDivsLastWriteWinsRow : OpenClaim := { program := "qxb6608689a", sum := "a7c43af20f0ccbd821bff4b65ff7f0bd7d1d36506fcaeb00a61bef95ce99b851", func := "example.com/branchlock/branchlock/zzlaws_root_b1.FnSetDivsLastWriteWins", spec := "fnSetDivsLastWriteWins", apart := false }
def FnSetDivsLastWriteWinsSaid : Prop := fnSetDivsLastWriteWinsRow.holds Try.pinned (OpenSpec.ofChange fnSetDivsLastWriteWinsSpec)

/-- ITS FALSE NEIGHBOUR: 'it returns false'. Refute it at one input. -/
def fnSetDivsLastWriteWinsWrong : ChangeSpec := { name := "fnSetDivsLastWriteWins", fn := fun _ => fun
  | [d1, d2] => { results := [.lit (.bool false)], args := [d1, d2] }
  | _ => none }
def FnSetDivsLastWriteWinsWrongFalsely : Prop := fnSetDivsLastWriteWinsRow.holds Try.pinned (OpenSpec.ofChange fnSetDivsLastWriteWinsWrong)

/-- 'zzlaws_root_b1.FnSetDivsOfLabelStep': WHATEVER THE INPUT: true; the input reads as it did. -/
def fnSetDivsOfLabelStepSpec : ChangeSpec := { name := "fnSetDivsOfLabelStep", fn := fun _ => fun
  | [d] => { results := [.lit (.bool true)], args := [d] }
  | _ => none }
def fnSetDivsOfLabelStepRow : OpenClaim := { program := "qxb6608689a", sum := "a7c43af20f0ccbd821bff4b65ff7f0bd7d1d36506fcaeb00a61bef95ce99b851", func := "example.com/branchlock/branchlock/zzlaws_root_b1.FnSetDivsOfLabelStep", spec := "fnSetDivsOfLabelStep", apart := false }
def FnSetDivsOfLabelStepSaid : Prop := fnSetDivsOfLabelStepRow.holds Try.pinned (OpenSpec.ofChange fnSetDivsOfLabelStepSpec)

/-- ITS FALSE NEIGHBOUR: 'it returns false'. Refute it at one input. -/
def fnSetDivsOfLabelStepWrong : ChangeSpec := { name := "fnSetDivsOfLabelStep", fn := fun _ => fun
  | [d] => { results := [.lit (.bool false)], args := [d] }
  | _ => none }
def FnSetDivsOfLabelStepWrongFalsely : Prop := fnSetDivsOfLabelStepRow.holds Try.pinned (OpenSpec.ofChange fnSetDivsOfLabelStepWrong)

end Rows
end Go.Proofs.Qxb6608689a
