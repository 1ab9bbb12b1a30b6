/-
  No cell of these rows narrows 'for every input' (looked for: loops, veiled, ifaces, maps, wideKeys, modest, calm, conditions, laid).
  DERIVED. THE GIVEN ROWS OF THIS SEAT. 4 by the template 'for every input the law returns true; each argument reads behind the call as it read before'; 0 by the template 'total and deterministic' (their statements: Qxb6615577aTotals.lean).
  GIVEN WITH THE SEED: the statements are not yours to turn. If you find one false, say at which input.
  Laid BY PROGRAM, IN A SANDBOX (cutbox-rows.mjs): the forced cells as the released guide's own fill.sh prints them over the translation 371f82d4af551694… (all of the seat's roots in one cut). By AI agents, Wed Nov 11 2026. No macro, syntax, notation, axiom, sorry.
-/
import Derived.Test.Qxb6615577aChecked
import GoSem.Claim
import GoSem.ClaimJoined
import GoSem.ClaimMapViews
import Derived.JoinedTies
import Derived.KernelRfl
namespace Go.Proofs.Qxb6615577a
/- THE CELL 'sum', in the pinned program and in every row, IS THE sha256 OF THE DUMP (.gsa) THAT Qxb6615577aProg.lean LOADS. Nothing in Lean hashes anything: it is a label: what it is worth is what the hold of that sum in a sandbox is worth. -/
noncomputable def Try.pinned : Pinned := { name := "qxb6615577a", sum := "371f82d4af551694d6a028ef7f56317bc8dcdcbfb5ac69ff99abef585ee6a063", checked := Try.checked }
namespace Rows
def none {H : Type} : Left H := { results := [], args := [] }

/-- 'zzlaws_internal_promql_b1.FnSameSliceWindowsOfOneArray': WHATEVER THE INPUT: true; the input reads as it did. -/
def fnSameSliceWindowsOfOneArraySpec : ChangeSpec := { name := "fnSameSliceWindowsOfOneArray", fn := fun _ => fun
  | [d1, d2, d3, d4] => { results := [.lit (.bool true)], args := [d1, d2, d3, d4] }
  | _ => none }
def fnSameSliceWindowsOfOneArrayRow : OpenClaim := { program := "qxb6615577a", sum := "371f82d4af551694d6a028ef7f56317bc8dcdcbfb5ac69ff99abef585ee6a063", func := "example.com/lookback/lookback/zzlaws_internal_promql_b1.FnSameSliceWindowsOfOneArray", spec := "fnSameSliceWindowsOfOneArray", apart := false }
def FnSameSliceWindowsOfOneArraySaid : Prop := fnSameSliceWindowsOfOneArrayRow.holds Try.pinned (OpenSpec.ofChange fnSameSliceWindowsOfOneArraySpec)

/-- ITS FALSE NEIGHBOUR: 'it returns false'. Refute it at one input. -/
def fnSameSliceWindowsOfOneArrayWrong : ChangeSpec := { name := "fnSameSliceWindowsOfOneArray", fn := fun _ => fun
  | [d1, d2, d3, d4] => { results := [.lit (.bool false)], args := [d1, d2, d3, d4] }
  | _ => none }
def FnSameSliceWindowsOfOneArrayWrongFalsely : Prop := fnSameSliceWindowsOfOneArrayRow.holds Try.pinned (OpenSpec.ofChange fnSameSliceWindowsOfOneArrayWrong)

/-- 'zzlaws_internal_promql_b1.FnSameSliceNeverAcrossArrays': WHATEVER THE INPUT: true; the input reads as it did. -/
def fnSameSliceNeverAcrossArraysSpec : ChangeSpec := { name := "fnSameSliceNeverAcrossArrays", fn := fun _ => fun
  | [d1, d2, d3] => { results := [.lit (.bool true)], args := [d1, d2, d3] }
  | _ => none }
def fnSameSliceNeverAcrossArraysRow : OpenClaim := { program := "qxb6615577a", sum := "371f82d4af551694d6a028ef7f56317bc8dcdcbfb5ac69ff99abef585ee6a063", func := "example.com/lookback/lookback/zzlaws_internal_promql_b1.FnSameSliceNeverAcrossArrays", spec := "fnSameSliceNeverAcrossArrays", apart := false }
def FnSameSliceNeverAcrossArraysSaid : Prop := fnSameSliceNeverAcrossArraysRow.holds Try.pinned (OpenSpec.ofChange fnSameSliceNeverAcrossArraysSpec)

/-- ITS FALSE NEIGHBOUR: 'it returns false'. Refute it at one input. -/
def fnSameSliceNeverAcrossArraysWrong : ChangeSpec := { name := "fnSameSliceNeverAcrossArrays", fn := fun _ => fun
  | [d1, d2, d3] => { results := [.lit (.bool false)], args := [d1, d2, d3] }
  | _ => none }
def FnSameSliceNeverAcrossArraysWrongFalsely : Prop := fnSameSliceNeverAcrossArraysRow.holds Try.pinned (OpenSpec.ofChange fnSameSliceNeverAcrossArraysWrong)

/-- 'zzlaws_internal_promql_b1.FnAbsenceIsOneElementOfTheFixedLabels': WHATEVER THE INPUT: true; the input reads as it did. -/
def fnAbsenceIsOneElementOfTheFixedLabelsSpec : ChangeSpec := { name := "fnAbsenceIsOneElementOfTheFixedLabels", fn := fun _ => fun
  | [d1, d2, d3, d4, d5, d6] => { results := [.lit (.bool true)], args := [d1, d2, d3, d4, d5, d6] }
  | _ => none }
def fnAbsenceIsOneElementOfTheFixedLabelsRow : OpenClaim := { program := "qxb6615577a", sum := "371f82d4af551694d6a028ef7f56317bc8dcdcbfb5ac69ff99abef585ee6a063", func := "example.com/lookback/lookback/zzlaws_internal_promql_b1.FnAbsenceIsOneElementOfTheFixedLabels", spec := "fnAbsenceIsOneElementOfTheFixedLabels", inPlace := ["internal/reflectlite.ValueOf", "internal/reflectlite.Swapper", "(internal/reflectlite.Value).Len"], unfollowed := true, recurses := true, apart := false }
def FnAbsenceIsOneElementOfTheFixedLabelsSaid : Prop := fnAbsenceIsOneElementOfTheFixedLabelsRow.holds Try.pinned (OpenSpec.ofChange fnAbsenceIsOneElementOfTheFixedLabelsSpec)

/-- ITS FALSE NEIGHBOUR: 'it returns false'. Refute it at one input. -/
def fnAbsenceIsOneElementOfTheFixedLabelsWrong : ChangeSpec := { name := "fnAbsenceIsOneElementOfTheFixedLabels", fn := fun _ => fun
  | [d1, d2, d3, d4, d5, d6] => { results := [.lit (.bool false)], args := [d1, d2, d3, d4, d5, d6] }
  | _ => none }
def FnAbsenceIsOneElementOfTheFixedLabelsWrongFalsely : Prop := fnAbsenceIsOneElementOfTheFixedLabelsRow.holds Try.pinned (OpenSpec.ofChange fnAbsenceIsOneElementOfTheFixedLabelsWrong)

/-- 'zzlaws_internal_promql_b1.FnAbsenceLabelsSelectThemselves': WHATEVER THE INPUT: true; the input reads as it did. -/
def fnAbsenceLabelsSelectThemselvesSpec : ChangeSpec := { name := "fnAbsenceLabelsSelectThemselves", fn := fun _ => fun
  | [d1, d2, d3, d4, d5, d6, d7] => { results := [.lit (.bool true)], args := [d1, d2, d3, d4, d5, d6, d7] }
  | _ => none }
def fnAbsenceLabelsSelectThemselvesRow : OpenClaim := { program := "qxb6615577a", sum := "371f82d4af551694d6a028ef7f56317bc8dcdcbfb5ac69ff99abef585ee6a063", func := "example.com/lookback/lookback/zzlaws_internal_promql_b1.FnAbsenceLabelsSelectThemselves", spec := "fnAbsenceLabelsSelectThemselves", inPlace := ["internal/reflectlite.ValueOf", "internal/reflectlite.Swapper", "(internal/reflectlite.Value).Len"], unfollowed := true, recurses := true, apart := false }
def FnAbsenceLabelsSelectThemselvesSaid : Prop := fnAbsenceLabelsSelectThemselvesRow.holds Try.pinned (OpenSpec.ofChange fnAbsenceLabelsSelectThemselvesSpec)

/-- ITS FALSE NEIGHBOUR: 'it returns false'. Refute it at one input. -/
def fnAbsenceLabelsSelectThemselvesWrong : ChangeSpec := { name := "fnAbsenceLabelsSelectThemselves", fn := fun _ => fun
  | [d1, d2, d3, d4, d5, d6, d7] => { results := [.lit (.bool false)], args := [d1, d2, d3, d4, d5, d6, d7] }
  | _ => none }
def FnAbsenceLabelsSelectThemselvesWrongFalsely : Prop := fnAbsenceLabelsSelectThemselvesRow.holds Try.pinned (OpenSpec.ofChange fnAbsenceLabelsSelectThemselvesWrong)

end Rows
end Go.Proofs.Qxb6615577a
