/-
  No cell of these rows narrows 'for every input' (looked for: loops, veiled, ifaces, maps, wideKeys, modest, calm, conditions, laid).
  DERIVED. THE GIVEN ROWS OF THIS SEAT. 4 by the template 'for every input the law returns true; each argument reads behind the call as it read before'; 0 by the template 'total and deterministic' (their statements: Qxb6603709aTotals.lean).
  GIVEN WITH THE SEED: the statements are not yours to turn. If you find one false, say at which input.
  Laid BY PROGRAM, IN A SANDBOX (cutbox-rows.mjs): the forced cells as the released guide's own fill.sh prints them over the translation 16d07a7f9a901bc2… (all of the seat's roots in one cut). By AI agents, Wed Nov 11 2026. No macro, syntax, notation, axiom, sorry.
-/
import Derived.Test.Qxb6603709aChecked
import GoSem.Claim
import GoSem.ClaimJoined
import GoSem.ClaimMapViews
import Derived.JoinedTies
import Derived.KernelRfl
namespace Go.Proofs.Qxb6603709a
/- THE CELL 'sum', in the pinned program and in every row, IS THE sha256 OF THE DUMP (.gsa) THAT Qxb6603709aProg.lean LOADS. Nothing in Lean hashes anything: it is a label: what it is worth is what the hold of that sum in a sandbox is worth. -/
noncomputable def Try.pinned : Pinned := { name := "qxb6603709a", sum := "16d07a7f9a901bc2f82b13bb022ff16333583523cfcacb289a99ee4e45746553", checked := Try.checked }
namespace Rows
def none {H : Type} : Left H := { results := [], args := [] }

/-- 'zzlaws_internal_indexsort_b1.FnScanStringSliceMatchesPairedSwaps': WHATEVER THE INPUT: true; the input reads as it did. -/
def fnScanStringSliceMatchesPairedSwapsSpec : ChangeSpec := { name := "fnScanStringSliceMatchesPairedSwaps", fn := fun _ => fun
  | [d1, d2, d3, d4] => { results := [.lit (.bool true)], args := [d1, d2, d3, d4] }
  | _ => none }
def fnScanStringSliceMatchesPairedSwapsRow : OpenClaim := { program := "qxb6603709a", sum := "16d07a7f9a901bc2f82b13bb022ff16333583523cfcacb289a99ee4e45746553", func := "example.com/sortwright/sortwright/zzlaws_internal_indexsort_b1.FnScanStringSliceMatchesPairedSwaps", spec := "fnScanStringSliceMatchesPairedSwaps", apart := false }
def FnScanStringSliceMatchesPairedSwapsSaid : Prop := fnScanStringSliceMatchesPairedSwapsRow.holds Try.pinned (OpenSpec.ofChange fnScanStringSliceMatchesPairedSwapsSpec)

/-- ITS FALSE NEIGHBOUR: 'it returns false'. Refute it at one input. -/
def fnScanStringSliceMatchesPairedSwapsWrong : ChangeSpec := { name := "fnScanStringSliceMatchesPairedSwaps", fn := fun _ => fun
  | [d1, d2, d3, d4] => { results := [.lit (.bool false)], args := [d1, d2, d3, d4] }
  | _ => none }
def FnScanStringSliceMatchesPairedSwapsWrongFalsely : Prop := fnScanStringSliceMatchesPairedSwapsRow.holds Try.pinned (OpenSpec.ofChange fnScanStringSliceMatchesPairedSwapsWrong)

/-- 'zzlaws_internal_indexsort_b1.FnScanApartStringSliceMatchesPairedSwaps': WHATEVER THE INPUT: true; the input reads as it did. -/
def fnScanApartStringSliceMatchesPairedSwapsSpec : ChangeSpec := { name := "fnScanApartStringSliceMatchesPairedSwaps", fn := fun _ => fun
  | [d1, d2, d3, d4, d5, d6] => { results := [.lit (.bool true)], args := [d1, d2, d3, d4, d5, d6] }
  | _ => none }
def fnScanApartStringSliceMatchesPairedSwapsRow : OpenClaim := { program := "qxb6603709a", sum := "16d07a7f9a901bc2f82b13bb022ff16333583523cfcacb289a99ee4e45746553", func := "example.com/sortwright/sortwright/zzlaws_internal_indexsort_b1.FnScanApartStringSliceMatchesPairedSwaps", spec := "fnScanApartStringSliceMatchesPairedSwaps", apart := false }
def FnScanApartStringSliceMatchesPairedSwapsSaid : Prop := fnScanApartStringSliceMatchesPairedSwapsRow.holds Try.pinned (OpenSpec.ofChange fnScanApartStringSliceMatchesPairedSwapsSpec)

/-- ITS FALSE NEIGHBOUR: 'it returns false'. Refute it at one input. -/
def fnScanApartStringSliceMatchesPairedSwapsWrong : ChangeSpec := { name := "fnScanApartStringSliceMatchesPairedSwaps", fn := fun _ => fun
  | [d1, d2, d3, d4, d5, d6] => { results := [.lit (.bool false)], args := [d1, d2, d3, d4, d5, d6] }
  | _ => none }
def FnScanApartStringSliceMatchesPairedSwapsWrongFalsely : Prop := fnScanApartStringSliceMatchesPairedSwapsRow.holds Try.pinned (OpenSpec.ofChange fnScanApartStringSliceMatchesPairedSwapsWrong)

/-- 'zzlaws_internal_indexsort_b1.FnScanApartStringSliceLeavesPartsSplit': WHATEVER THE INPUT: true; the input reads as it did. -/
def fnScanApartStringSliceLeavesPartsSplitSpec : ChangeSpec := { name := "fnScanApartStringSliceLeavesPartsSplit", fn := fun _ => fun
  | [d1, d2, d3, d4, d5, d6] => { results := [.lit (.bool true)], args := [d1, d2, d3, d4, d5, d6] }
  | _ => none }
def fnScanApartStringSliceLeavesPartsSplitRow : OpenClaim := { program := "qxb6603709a", sum := "16d07a7f9a901bc2f82b13bb022ff16333583523cfcacb289a99ee4e45746553", func := "example.com/sortwright/sortwright/zzlaws_internal_indexsort_b1.FnScanApartStringSliceLeavesPartsSplit", spec := "fnScanApartStringSliceLeavesPartsSplit", apart := false }
def FnScanApartStringSliceLeavesPartsSplitSaid : Prop := fnScanApartStringSliceLeavesPartsSplitRow.holds Try.pinned (OpenSpec.ofChange fnScanApartStringSliceLeavesPartsSplitSpec)

/-- ITS FALSE NEIGHBOUR: 'it returns false'. Refute it at one input. -/
def fnScanApartStringSliceLeavesPartsSplitWrong : ChangeSpec := { name := "fnScanApartStringSliceLeavesPartsSplit", fn := fun _ => fun
  | [d1, d2, d3, d4, d5, d6] => { results := [.lit (.bool false)], args := [d1, d2, d3, d4, d5, d6] }
  | _ => none }
def FnScanApartStringSliceLeavesPartsSplitWrongFalsely : Prop := fnScanApartStringSliceLeavesPartsSplitRow.holds Try.pinned (OpenSpec.ofChange fnScanApartStringSliceLeavesPartsSplitWrong)

/-- 'zzlaws_internal_indexsort_b1.FnPastTurnStringSliceSameWayLeavesOneRun': WHATEVER THE INPUT: true; the input reads as it did. -/
def fnPastTurnStringSliceSameWayLeavesOneRunSpec : ChangeSpec := { name := "fnPastTurnStringSliceSameWayLeavesOneRun", fn := fun _ => fun
  | [d1, d2, d3, d4, d5, d6, d7] => { results := [.lit (.bool true)], args := [d1, d2, d3, d4, d5, d6, d7] }
  | _ => none }
def fnPastTurnStringSliceSameWayLeavesOneRunRow : OpenClaim := { program := "qxb6603709a", sum := "16d07a7f9a901bc2f82b13bb022ff16333583523cfcacb289a99ee4e45746553", func := "example.com/sortwright/sortwright/zzlaws_internal_indexsort_b1.FnPastTurnStringSliceSameWayLeavesOneRun", spec := "fnPastTurnStringSliceSameWayLeavesOneRun", apart := false }
def FnPastTurnStringSliceSameWayLeavesOneRunSaid : Prop := fnPastTurnStringSliceSameWayLeavesOneRunRow.holds Try.pinned (OpenSpec.ofChange fnPastTurnStringSliceSameWayLeavesOneRunSpec)

/-- ITS FALSE NEIGHBOUR: 'it returns false'. Refute it at one input. -/
def fnPastTurnStringSliceSameWayLeavesOneRunWrong : ChangeSpec := { name := "fnPastTurnStringSliceSameWayLeavesOneRun", fn := fun _ => fun
  | [d1, d2, d3, d4, d5, d6, d7] => { results := [.lit (.bool false)], args := [d1, d2, d3, d4, d5, d6, d7] }
  | _ => none }
def FnPastTurnStringSliceSameWayLeavesOneRunWrongFalsely : Prop := fnPastTurnStringSliceSameWayLeavesOneRunRow.holds Try.pinned (OpenSpec.ofChange fnPastTurnStringSliceSameWayLeavesOneRunWrong)

end Rows
end Go.Proofs.Qxb6603709a
