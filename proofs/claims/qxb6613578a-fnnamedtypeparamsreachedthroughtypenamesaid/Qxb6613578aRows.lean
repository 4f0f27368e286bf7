/-
  No cell of these rows narrows 'for every input' (looked for: loops, veiled, ifaces, maps, wideKeys, modest, calm, conditions, laid).
  DERIVED. THE GIVEN ROWS OF THIS SEAT. 6 by the template 'for every input the law returns true; each argument reads behind the call as it read before'; 0 by the template 'total and deterministic' (their statements: Qxb6613578aTotals.lean).
  GIVEN WITH THE SEED: the statements are not yours to turn. If you find one false, say at which input.
  Laid BY PROGRAM, IN A SANDBOX (cutbox-rows.mjs): the forced cells as the released guide's own fill.sh prints them over the translation 2b5b4da6bbb20c01… (all of the seat's roots in one cut). By AI agents, Wed Nov 11 2026. No macro, syntax, notation, axiom, sorry.
-/
import Derived.Test.Qxb6613578aChecked
import GoSem.Claim
import GoSem.ClaimJoined
import GoSem.ClaimMapViews
import Derived.JoinedTies
import Derived.KernelRfl
namespace Go.Proofs.Qxb6613578a
/- THE CELL 'sum', in the pinned program and in every row, IS THE sha256 OF THE DUMP (.gsa) THAT Qxb6613578aProg.lean LOADS. Nothing in Lean hashes anything: it is a label: what it is worth is what the hold of that sum in a sandbox is worth. -/
noncomputable def Try.pinned : Pinned := { name := "qxb6613578a", sum := "2b5b4da6bbb20c019bd479b7552d8f0eabd55598cadb3467a2d974267019824a", checked := Try.checked }
namespace Rows
def none {H : Type} : Left H := { results := [], args := [] }

/-- 'zzlaws_types_b1.FnTupleLenCountsWhatNewTupleHolds': WHATEVER THE INPUT: true; the input reads as it did. -/
def fnTupleLenCountsWhatNewTupleHoldsSpec : ChangeSpec := { name := "fnTupleLenCountsWhatNewTupleHolds", fn := fun _ => fun
  | [d] => { results := [.lit (.bool true)], args := [d] }
  | _ => none }
def fnTupleLenCountsWhatNewTupleHoldsRow : OpenClaim := { program := "qxb6613578a", sum := "2b5b4da6bbb20c019bd479b7552d8f0eabd55598cadb3467a2d974267019824a", func := "example.com/burrow/burrow/zzlaws_types_b1.FnTupleLenCountsWhatNewTupleHolds", spec := "fnTupleLenCountsWhatNewTupleHolds", apart := false }
def FnTupleLenCountsWhatNewTupleHoldsSaid : Prop := fnTupleLenCountsWhatNewTupleHoldsRow.holds Try.pinned (OpenSpec.ofChange fnTupleLenCountsWhatNewTupleHoldsSpec)

/-- ITS FALSE NEIGHBOUR: 'it returns false'. Refute it at one input. -/
def fnTupleLenCountsWhatNewTupleHoldsWrong : ChangeSpec := { name := "fnTupleLenCountsWhatNewTupleHolds", fn := fun _ => fun
  | [d] => { results := [.lit (.bool false)], args := [d] }
  | _ => none }
def FnTupleLenCountsWhatNewTupleHoldsWrongFalsely : Prop := fnTupleLenCountsWhatNewTupleHoldsRow.holds Try.pinned (OpenSpec.ofChange fnTupleLenCountsWhatNewTupleHoldsWrong)

/-- 'zzlaws_types_b1.FnTupleLenAddsAtAnyCut': WHATEVER THE INPUT: true; the input reads as it did. -/
def fnTupleLenAddsAtAnyCutSpec : ChangeSpec := { name := "fnTupleLenAddsAtAnyCut", fn := fun _ => fun
  | [d1, d2] => { results := [.lit (.bool true)], args := [d1, d2] }
  | _ => none }
def fnTupleLenAddsAtAnyCutRow : OpenClaim := { program := "qxb6613578a", sum := "2b5b4da6bbb20c019bd479b7552d8f0eabd55598cadb3467a2d974267019824a", func := "example.com/burrow/burrow/zzlaws_types_b1.FnTupleLenAddsAtAnyCut", spec := "fnTupleLenAddsAtAnyCut", apart := false }
def FnTupleLenAddsAtAnyCutSaid : Prop := fnTupleLenAddsAtAnyCutRow.holds Try.pinned (OpenSpec.ofChange fnTupleLenAddsAtAnyCutSpec)

/-- ITS FALSE NEIGHBOUR: 'it returns false'. Refute it at one input. -/
def fnTupleLenAddsAtAnyCutWrong : ChangeSpec := { name := "fnTupleLenAddsAtAnyCut", fn := fun _ => fun
  | [d1, d2] => { results := [.lit (.bool false)], args := [d1, d2] }
  | _ => none }
def FnTupleLenAddsAtAnyCutWrongFalsely : Prop := fnTupleLenAddsAtAnyCutRow.holds Try.pinned (OpenSpec.ofChange fnTupleLenAddsAtAnyCutWrong)

/-- 'zzlaws_types_b1.FnSignatureRecvKeptByNewGenericSignature': WHATEVER THE INPUT: true; the input reads as it did. -/
def fnSignatureRecvKeptByNewGenericSignatureSpec : ChangeSpec := { name := "fnSignatureRecvKeptByNewGenericSignature", fn := fun _ => fun
  | [d1, d2, d3, d4, d5, d6] => { results := [.lit (.bool true)], args := [d1, d2, d3, d4, d5, d6] }
  | _ => none }
def fnSignatureRecvKeptByNewGenericSignatureRow : OpenClaim := { program := "qxb6613578a", sum := "2b5b4da6bbb20c019bd479b7552d8f0eabd55598cadb3467a2d974267019824a", func := "example.com/burrow/burrow/zzlaws_types_b1.FnSignatureRecvKeptByNewGenericSignature", spec := "fnSignatureRecvKeptByNewGenericSignature", apart := false }
def FnSignatureRecvKeptByNewGenericSignatureSaid : Prop := fnSignatureRecvKeptByNewGenericSignatureRow.holds Try.pinned (OpenSpec.ofChange fnSignatureRecvKeptByNewGenericSignatureSpec)

/-- ITS FALSE NEIGHBOUR: 'it returns false'. Refute it at one input. -/
def fnSignatureRecvKeptByNewGenericSignatureWrong : ChangeSpec := { name := "fnSignatureRecvKeptByNewGenericSignature", fn := fun _ => fun
  | [d1, d2, d3, d4, d5, d6] => { results := [.lit (.bool false)], args := [d1, d2, d3, d4, d5, d6] }
  | _ => none }
def FnSignatureRecvKeptByNewGenericSignatureWrongFalsely : Prop := fnSignatureRecvKeptByNewGenericSignatureRow.holds Try.pinned (OpenSpec.ofChange fnSignatureRecvKeptByNewGenericSignatureWrong)

/-- 'zzlaws_types_b1.FnSignatureRecvTellsMethodFromFunction': WHATEVER THE INPUT: true; the input reads as it did. -/
def fnSignatureRecvTellsMethodFromFunctionSpec : ChangeSpec := { name := "fnSignatureRecvTellsMethodFromFunction", fn := fun _ => fun
  | [d1, d2, d3, d4, d5] => { results := [.lit (.bool true)], args := [d1, d2, d3, d4, d5] }
  | _ => none }
def fnSignatureRecvTellsMethodFromFunctionRow : OpenClaim := { program := "qxb6613578a", sum := "2b5b4da6bbb20c019bd479b7552d8f0eabd55598cadb3467a2d974267019824a", func := "example.com/burrow/burrow/zzlaws_types_b1.FnSignatureRecvTellsMethodFromFunction", spec := "fnSignatureRecvTellsMethodFromFunction", apart := false }
def FnSignatureRecvTellsMethodFromFunctionSaid : Prop := fnSignatureRecvTellsMethodFromFunctionRow.holds Try.pinned (OpenSpec.ofChange fnSignatureRecvTellsMethodFromFunctionSpec)

/-- ITS FALSE NEIGHBOUR: 'it returns false'. Refute it at one input. -/
def fnSignatureRecvTellsMethodFromFunctionWrong : ChangeSpec := { name := "fnSignatureRecvTellsMethodFromFunction", fn := fun _ => fun
  | [d1, d2, d3, d4, d5] => { results := [.lit (.bool false)], args := [d1, d2, d3, d4, d5] }
  | _ => none }
def FnSignatureRecvTellsMethodFromFunctionWrongFalsely : Prop := fnSignatureRecvTellsMethodFromFunctionRow.holds Try.pinned (OpenSpec.ofChange fnSignatureRecvTellsMethodFromFunctionWrong)

/-- 'zzlaws_types_b1.FnNamedTypeParamsAreThoseItWasMadeWith': WHATEVER THE INPUT: true; the input reads as it did. -/
def fnNamedTypeParamsAreThoseItWasMadeWithSpec : ChangeSpec := { name := "fnNamedTypeParamsAreThoseItWasMadeWith", fn := fun _ => fun
  | [d1, d2, d3] => { results := [.lit (.bool true)], args := [d1, d2, d3] }
  | _ => none }
def fnNamedTypeParamsAreThoseItWasMadeWithRow : OpenClaim := { program := "qxb6613578a", sum := "2b5b4da6bbb20c019bd479b7552d8f0eabd55598cadb3467a2d974267019824a", func := "example.com/burrow/burrow/zzlaws_types_b1.FnNamedTypeParamsAreThoseItWasMadeWith", spec := "fnNamedTypeParamsAreThoseItWasMadeWith", apart := false }
def FnNamedTypeParamsAreThoseItWasMadeWithSaid : Prop := fnNamedTypeParamsAreThoseItWasMadeWithRow.holds Try.pinned (OpenSpec.ofChange fnNamedTypeParamsAreThoseItWasMadeWithSpec)

/-- ITS FALSE NEIGHBOUR: 'it returns false'. Refute it at one input. -/
def fnNamedTypeParamsAreThoseItWasMadeWithWrong : ChangeSpec := { name := "fnNamedTypeParamsAreThoseItWasMadeWith", fn := fun _ => fun
  | [d1, d2, d3] => { results := [.lit (.bool false)], args := [d1, d2, d3] }
  | _ => none }
def FnNamedTypeParamsAreThoseItWasMadeWithWrongFalsely : Prop := fnNamedTypeParamsAreThoseItWasMadeWithRow.holds Try.pinned (OpenSpec.ofChange fnNamedTypeParamsAreThoseItWasMadeWithWrong)

/-- 'zzlaws_types_b1.FnNamedTypeParamsReachedThroughTypeName': WHATEVER THE INPUT: true; the input reads as it did. -/
def fnNamedTypeParamsReachedThroughTypeNameSpec : ChangeSpec := { name := "fnNamedTypeParamsReachedThroughTypeName", fn := fun _ => fun
  | [d1, d2, d3, d4] => { results := [.lit (.bool true)], args := [d1, d2, d3, d4] }
  | _ => none }
def fnNamedTypeParamsReachedThroughTypeNameRow : OpenClaim := { program := "qxb6613578a", sum := "2b5b4da6bbb20c019bd479b7552d8f0eabd55598cadb3467a2d974267019824a", func := "example.com/burrow/burrow/zzlaws_types_b1.FnNamedTypeParamsReachedThroughTypeName", spec := "fnNamedTypeParamsReachedThroughTypeName", apart := false }
def FnNamedTypeParamsReachedThroughTypeNameSaid : Prop := fnNamedTypeParamsReachedThroughTypeNameRow.holds Try.pinned (OpenSpec.ofChange fnNamedTypeParamsReachedThroughTypeNameSpec)

/-- ITS FALSE NEIGHBOUR: 'it returns false'. Refute it at one input. -/
def fnNamedTypeParamsReachedThroughTypeNameWrong : ChangeSpec := { name := "fnNamedTypeParamsReachedThroughTypeName", fn := fun _ => fun
  | [d1, d2, d3, d4] => { results := [.lit (.bool false)], args := [d1, d2, d3, d4] }
  | _ => none }
def FnNamedTypeParamsReachedThroughTypeNameWrongFalsely : Prop := fnNamedTypeParamsReachedThroughTypeNameRow.holds Try.pinned (OpenSpec.ofChange fnNamedTypeParamsReachedThroughTypeNameWrong)

end Rows
end Go.Proofs.Qxb6613578a
