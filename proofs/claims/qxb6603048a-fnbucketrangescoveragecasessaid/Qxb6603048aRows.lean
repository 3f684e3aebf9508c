/-
  No cell of these rows narrows 'for every input' (looked for: loops, veiled, ifaces, maps, wideKeys, modest, calm, conditions, laid).
  DERIVED. THE GIVEN ROWS OF THIS SEAT. 7 by the template 'for every input the law returns true; each argument reads behind the call as it read before'; 0 by the template 'total and deterministic' (their statements: Qxb6603048aTotals.lean).
  GIVEN WITH THE SEED: the statements are not yours to turn. If you find one false, say at which input.
  Laid BY PROGRAM, IN A SANDBOX (cutbox-rows.mjs): the forced cells as the released guide's own fill.sh prints them over the translation b1515c7932ae52c9… (all of the seat's roots in one cut). By AI agents, Wed Nov 11 2026. No macro, syntax, notation, axiom, sorry.
-/
import Derived.Test.Qxb6603048aChecked
import GoSem.Claim
import GoSem.ClaimJoined
import GoSem.ClaimMapViews
import Derived.JoinedTies
import Derived.KernelRfl
namespace Go.Proofs.Qxb6603048a
/- THE CELL 'sum', in the pinned program and in every row, IS THE sha256 OF THE DUMP (.gsa) THAT Qxb6603048aProg.lean LOADS. Nothing in Lean hashes anything: it is a label: what it is worth is what the hold of that sum in a sandbox is worth. -/
noncomputable def Try.pinned : Pinned := { name := "qxb6603048a", sum := "b1515c7932ae52c9bc0b23a4e6b3de1b4d1ee0382aba0e436780849175eb9e03", checked := Try.checked }
namespace Rows
def none {H : Type} : Left H := { results := [], args := [] }

/-- 'zzlaws_root_b1.FnBucketRangesAppendAgrees': WHATEVER THE INPUT: true; the input reads as it did. -/
def fnBucketRangesAppendAgreesSpec : ChangeSpec := { name := "fnBucketRangesAppendAgrees", fn := fun _ => fun
  | [d1, d2, d3, d4] => { results := [.lit (.bool true)], args := [d1, d2, d3, d4] }
  | _ => none }
def fnBucketRangesAppendAgreesRow : OpenClaim := { program := "qxb6603048a", sum := "b1515c7932ae52c9bc0b23a4e6b3de1b4d1ee0382aba0e436780849175eb9e03", func := "example.com/libcohort/libcohort/zzlaws_root_b1.FnBucketRangesAppendAgrees", spec := "fnBucketRangesAppendAgrees", apart := false }
def FnBucketRangesAppendAgreesSaid : Prop := fnBucketRangesAppendAgreesRow.holds Try.pinned (OpenSpec.ofChange fnBucketRangesAppendAgreesSpec)

/-- ITS FALSE NEIGHBOUR: 'it returns false'. Refute it at one input. -/
def fnBucketRangesAppendAgreesWrong : ChangeSpec := { name := "fnBucketRangesAppendAgrees", fn := fun _ => fun
  | [d1, d2, d3, d4] => { results := [.lit (.bool false)], args := [d1, d2, d3, d4] }
  | _ => none }
def FnBucketRangesAppendAgreesWrongFalsely : Prop := fnBucketRangesAppendAgreesRow.holds Try.pinned (OpenSpec.ofChange fnBucketRangesAppendAgreesWrong)

/-- 'zzlaws_root_b1.FnBucketRangesCoverageCases': WHATEVER THE INPUT: true; the input reads as it did. -/
def fnBucketRangesCoverageCasesSpec : ChangeSpec := { name := "fnBucketRangesCoverageCases", fn := fun _ => fun
  | [d1, d2, d3] => { results := [.lit (.bool true)], args := [d1, d2, d3] }
  | _ => none }
def fnBucketRangesCoverageCasesRow : OpenClaim := { program := "qxb6603048a", sum := "b1515c7932ae52c9bc0b23a4e6b3de1b4d1ee0382aba0e436780849175eb9e03", func := "example.com/libcohort/libcohort/zzlaws_root_b1.FnBucketRangesCoverageCases", spec := "fnBucketRangesCoverageCases", apart := false }
def FnBucketRangesCoverageCasesSaid : Prop := fnBucketRangesCoverageCasesRow.holds Try.pinned (OpenSpec.ofChange fnBucketRangesCoverageCasesSpec)

/-- ITS FALSE NEIGHBOUR: 'it returns false'. Refute it at one input. -/
def fnBucketRangesCoverageCasesWrong : ChangeSpec := { name := "fnBucketRangesCoverageCases", fn := fun _ => fun
  | [d1, d2, d3] => { results := [.lit (.bool false)], args := [d1, d2, d3] }
  | _ => none }
def FnBucketRangesCoverageCasesWrongFalsely : Prop := fnBucketRangesCoverageCasesRow.holds Try.pinned (OpenSpec.ofChange fnBucketRangesCoverageCasesWrong)

/-- 'zzlaws_root_b1.FnBucketRangesFallbackEqual': WHATEVER THE INPUT: true; the input reads as it did. -/
def fnBucketRangesFallbackEqualSpec : ChangeSpec := { name := "fnBucketRangesFallbackEqual", fn := fun _ => fun
  | [d1, d2, d3] => { results := [.lit (.bool true)], args := [d1, d2, d3] }
  | _ => none }
def fnBucketRangesFallbackEqualRow : OpenClaim := { program := "qxb6603048a", sum := "b1515c7932ae52c9bc0b23a4e6b3de1b4d1ee0382aba0e436780849175eb9e03", func := "example.com/libcohort/libcohort/zzlaws_root_b1.FnBucketRangesFallbackEqual", spec := "fnBucketRangesFallbackEqual", apart := false }
def FnBucketRangesFallbackEqualSaid : Prop := fnBucketRangesFallbackEqualRow.holds Try.pinned (OpenSpec.ofChange fnBucketRangesFallbackEqualSpec)

/-- ITS FALSE NEIGHBOUR: 'it returns false'. Refute it at one input. -/
def fnBucketRangesFallbackEqualWrong : ChangeSpec := { name := "fnBucketRangesFallbackEqual", fn := fun _ => fun
  | [d1, d2, d3] => { results := [.lit (.bool false)], args := [d1, d2, d3] }
  | _ => none }
def FnBucketRangesFallbackEqualWrongFalsely : Prop := fnBucketRangesFallbackEqualRow.holds Try.pinned (OpenSpec.ofChange fnBucketRangesFallbackEqualWrong)

/-- 'zzlaws_root_b1.FnBucketRangesNestedApart': WHATEVER THE INPUT: true; the input reads as it did. -/
def fnBucketRangesNestedApartSpec : ChangeSpec := { name := "fnBucketRangesNestedApart", fn := fun _ => fun
  | [d1, d2, d3, d4] => { results := [.lit (.bool true)], args := [d1, d2, d3, d4] }
  | _ => none }
def fnBucketRangesNestedApartRow : OpenClaim := { program := "qxb6603048a", sum := "b1515c7932ae52c9bc0b23a4e6b3de1b4d1ee0382aba0e436780849175eb9e03", func := "example.com/libcohort/libcohort/zzlaws_root_b1.FnBucketRangesNestedApart", spec := "fnBucketRangesNestedApart", apart := false }
def FnBucketRangesNestedApartSaid : Prop := fnBucketRangesNestedApartRow.holds Try.pinned (OpenSpec.ofChange fnBucketRangesNestedApartSpec)

/-- ITS FALSE NEIGHBOUR: 'it returns false'. Refute it at one input. -/
def fnBucketRangesNestedApartWrong : ChangeSpec := { name := "fnBucketRangesNestedApart", fn := fun _ => fun
  | [d1, d2, d3, d4] => { results := [.lit (.bool false)], args := [d1, d2, d3, d4] }
  | _ => none }
def FnBucketRangesNestedApartWrongFalsely : Prop := fnBucketRangesNestedApartRow.holds Try.pinned (OpenSpec.ofChange fnBucketRangesNestedApartWrong)

/-- 'zzlaws_root_b1.FnClassHoldsExact': WHATEVER THE INPUT: true; the input reads as it did. -/
def fnClassHoldsExactSpec : ChangeSpec := { name := "fnClassHoldsExact", fn := fun _ => fun
  | [d1, d2] => { results := [.lit (.bool true)], args := [d1, d2] }
  | _ => none }
def fnClassHoldsExactRow : OpenClaim := { program := "qxb6603048a", sum := "b1515c7932ae52c9bc0b23a4e6b3de1b4d1ee0382aba0e436780849175eb9e03", func := "example.com/libcohort/libcohort/zzlaws_root_b1.FnClassHoldsExact", spec := "fnClassHoldsExact", apart := false }
def FnClassHoldsExactSaid : Prop := fnClassHoldsExactRow.holds Try.pinned (OpenSpec.ofChange fnClassHoldsExactSpec)

/-- ITS FALSE NEIGHBOUR: 'it returns false'. Refute it at one input. -/
def fnClassHoldsExactWrong : ChangeSpec := { name := "fnClassHoldsExact", fn := fun _ => fun
  | [d1, d2] => { results := [.lit (.bool false)], args := [d1, d2] }
  | _ => none }
def FnClassHoldsExactWrongFalsely : Prop := fnClassHoldsExactRow.holds Try.pinned (OpenSpec.ofChange fnClassHoldsExactWrong)

/-- 'zzlaws_root_b1.FnClassHoldsSplitAgrees': WHATEVER THE INPUT: true; the input reads as it did. -/
def fnClassHoldsSplitAgreesSpec : ChangeSpec := { name := "fnClassHoldsSplitAgrees", fn := fun _ => fun
  | [d1, d2, d3] => { results := [.lit (.bool true)], args := [d1, d2, d3] }
  | _ => none }
def fnClassHoldsSplitAgreesRow : OpenClaim := { program := "qxb6603048a", sum := "b1515c7932ae52c9bc0b23a4e6b3de1b4d1ee0382aba0e436780849175eb9e03", func := "example.com/libcohort/libcohort/zzlaws_root_b1.FnClassHoldsSplitAgrees", spec := "fnClassHoldsSplitAgrees", apart := false }
def FnClassHoldsSplitAgreesSaid : Prop := fnClassHoldsSplitAgreesRow.holds Try.pinned (OpenSpec.ofChange fnClassHoldsSplitAgreesSpec)

/-- ITS FALSE NEIGHBOUR: 'it returns false'. Refute it at one input. -/
def fnClassHoldsSplitAgreesWrong : ChangeSpec := { name := "fnClassHoldsSplitAgrees", fn := fun _ => fun
  | [d1, d2, d3] => { results := [.lit (.bool false)], args := [d1, d2, d3] }
  | _ => none }
def FnClassHoldsSplitAgreesWrongFalsely : Prop := fnClassHoldsSplitAgreesRow.holds Try.pinned (OpenSpec.ofChange fnClassHoldsSplitAgreesWrong)

/-- 'zzlaws_root_b1.FnDocumentScriptOneDocPerID': WHATEVER THE INPUT: true; the input reads as it did. -/
def fnDocumentScriptOneDocPerIDSpec : ChangeSpec := { name := "fnDocumentScriptOneDocPerID", fn := fun _ => fun
  | [d1, d2] => { results := [.lit (.bool true)], args := [d1, d2] }
  | _ => none }
def fnDocumentScriptOneDocPerIDRow : OpenClaim := { program := "qxb6603048a", sum := "b1515c7932ae52c9bc0b23a4e6b3de1b4d1ee0382aba0e436780849175eb9e03", func := "example.com/libcohort/libcohort/zzlaws_root_b1.FnDocumentScriptOneDocPerID", spec := "fnDocumentScriptOneDocPerID", apart := false }
def FnDocumentScriptOneDocPerIDSaid : Prop := fnDocumentScriptOneDocPerIDRow.holds Try.pinned (OpenSpec.ofChange fnDocumentScriptOneDocPerIDSpec)

/-- ITS FALSE NEIGHBOUR: 'it returns false'. Refute it at one input. -/
def fnDocumentScriptOneDocPerIDWrong : ChangeSpec := { name := "fnDocumentScriptOneDocPerID", fn := fun _ => fun
  | [d1, d2] => { results := [.lit (.bool false)], args := [d1, d2] }
  | _ => none }
def FnDocumentScriptOneDocPerIDWrongFalsely : Prop := fnDocumentScriptOneDocPerIDRow.holds Try.pinned (OpenSpec.ofChange fnDocumentScriptOneDocPerIDWrong)

end Rows
end Go.Proofs.Qxb6603048a
