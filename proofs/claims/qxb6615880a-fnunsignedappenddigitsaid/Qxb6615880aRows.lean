/-
  No cell of these rows narrows 'for every input' (looked for: loops, veiled, ifaces, maps, wideKeys, modest, calm, conditions, laid).
  DERIVED. THE GIVEN ROWS OF THIS SEAT. 4 by the template 'for every input the law returns true; each argument reads behind the call as it read before'; 0 by the template 'total and deterministic' (their statements: Qxb6615880aTotals.lean).
  GIVEN WITH THE SEED: the statements are not yours to turn. If you find one false, say at which input.
  Laid BY PROGRAM, IN A SANDBOX (cutbox-rows.mjs): the forced cells as the released guide's own fill.sh prints them over the translation b876384a945525ad… (all of the seat's roots in one cut). By AI agents, Wed Nov 11 2026. No macro, syntax, notation, axiom, sorry.
-/
import Derived.Test.Qxb6615880aChecked
import GoSem.Claim
import GoSem.ClaimJoined
import GoSem.ClaimMapViews
import Derived.JoinedTies
import Derived.KernelRfl
namespace Go.Proofs.Qxb6615880a
/- THE CELL 'sum', in the pinned program and in every row, IS THE sha256 OF THE DUMP (.gsa) THAT Qxb6615880aProg.lean LOADS. Nothing in Lean hashes anything: it is a label: what it is worth is what the hold of that sum in a sandbox is worth. -/
noncomputable def Try.pinned : Pinned := { name := "qxb6615880a", sum := "b876384a945525adf8669b6efb52b5ba922229670d4425f339056e45cd2647f6", checked := Try.checked }
namespace Rows
def none {H : Type} : Left H := { results := [], args := [] }

/-- 'zzlaws_internal_units_b1.FnUnsignedMatchesModel': WHATEVER THE INPUT: true; the input reads as it did. -/
def fnUnsignedMatchesModelSpec : ChangeSpec := { name := "fnUnsignedMatchesModel", fn := fun _ => fun
  | [d] => { results := [.lit (.bool true)], args := [d] }
  | _ => none }
def fnUnsignedMatchesModelRow : OpenClaim := { program := "qxb6615880a", sum := "b876384a945525adf8669b6efb52b5ba922229670d4425f339056e45cd2647f6", func := "example.com/classcap/classcap/zzlaws_internal_units_b1.FnUnsignedMatchesModel", spec := "fnUnsignedMatchesModel", apart := false }
def FnUnsignedMatchesModelSaid : Prop := fnUnsignedMatchesModelRow.holds Try.pinned (OpenSpec.ofChange fnUnsignedMatchesModelSpec)

/-- ITS FALSE NEIGHBOUR: 'it returns false'. Refute it at one input. -/
def fnUnsignedMatchesModelWrong : ChangeSpec := { name := "fnUnsignedMatchesModel", fn := fun _ => fun
  | [d] => { results := [.lit (.bool false)], args := [d] }
  | _ => none }
def FnUnsignedMatchesModelWrongFalsely : Prop := fnUnsignedMatchesModelRow.holds Try.pinned (OpenSpec.ofChange fnUnsignedMatchesModelWrong)

/-- 'zzlaws_internal_units_b1.FnUnsignedAppendDigit': WHATEVER THE INPUT: true; the input reads as it did. -/
def fnUnsignedAppendDigitSpec : ChangeSpec := { name := "fnUnsignedAppendDigit", fn := fun _ => fun
  | [d1, d2] => { results := [.lit (.bool true)], args := [d1, d2] }
  | _ => none }
def fnUnsignedAppendDigitRow : OpenClaim := { program := "qxb6615880a", sum := "b876384a945525adf8669b6efb52b5ba922229670d4425f339056e45cd2647f6", func := "example.com/classcap/classcap/zzlaws_internal_units_b1.FnUnsignedAppendDigit", spec := "fnUnsignedAppendDigit", apart := false }
def FnUnsignedAppendDigitSaid : Prop := fnUnsignedAppendDigitRow.holds Try.pinned (OpenSpec.ofChange fnUnsignedAppendDigitSpec)

/-- ITS FALSE NEIGHBOUR: 'it returns false'. Refute it at one input. -/
def fnUnsignedAppendDigitWrong : ChangeSpec := { name := "fnUnsignedAppendDigit", fn := fun _ => fun
  | [d1, d2] => { results := [.lit (.bool false)], args := [d1, d2] }
  | _ => none }
def FnUnsignedAppendDigitWrongFalsely : Prop := fnUnsignedAppendDigitRow.holds Try.pinned (OpenSpec.ofChange fnUnsignedAppendDigitWrong)

/-- 'zzlaws_internal_units_b1.FnIsDigitTenSingleDigitNumbers': WHATEVER THE INPUT: true; the input reads as it did. -/
def fnIsDigitTenSingleDigitNumbersSpec : ChangeSpec := { name := "fnIsDigitTenSingleDigitNumbers", fn := fun _ => fun
  | [] => { results := [.lit (.bool true)], args := [] }
  | _ => none }
def fnIsDigitTenSingleDigitNumbersRow : OpenClaim := { program := "qxb6615880a", sum := "b876384a945525adf8669b6efb52b5ba922229670d4425f339056e45cd2647f6", func := "example.com/classcap/classcap/zzlaws_internal_units_b1.FnIsDigitTenSingleDigitNumbers", spec := "fnIsDigitTenSingleDigitNumbers", apart := false }
def FnIsDigitTenSingleDigitNumbersSaid : Prop := fnIsDigitTenSingleDigitNumbersRow.holds Try.pinned (OpenSpec.ofChange fnIsDigitTenSingleDigitNumbersSpec)

/-- ITS FALSE NEIGHBOUR: 'it returns false'. Refute it at one input. -/
def fnIsDigitTenSingleDigitNumbersWrong : ChangeSpec := { name := "fnIsDigitTenSingleDigitNumbers", fn := fun _ => fun
  | [] => { results := [.lit (.bool false)], args := [] }
  | _ => none }
def FnIsDigitTenSingleDigitNumbersWrongFalsely : Prop := fnIsDigitTenSingleDigitNumbersRow.holds Try.pinned (OpenSpec.ofChange fnIsDigitTenSingleDigitNumbersWrong)

/-- 'zzlaws_internal_units_b1.FnIsDigitIsHexLetterSisters': WHATEVER THE INPUT: true; the input reads as it did. -/
def fnIsDigitIsHexLetterSistersSpec : ChangeSpec := { name := "fnIsDigitIsHexLetterSisters", fn := fun _ => fun
  | [] => { results := [.lit (.bool true)], args := [] }
  | _ => none }
def fnIsDigitIsHexLetterSistersRow : OpenClaim := { program := "qxb6615880a", sum := "b876384a945525adf8669b6efb52b5ba922229670d4425f339056e45cd2647f6", func := "example.com/classcap/classcap/zzlaws_internal_units_b1.FnIsDigitIsHexLetterSisters", spec := "fnIsDigitIsHexLetterSisters", apart := false }
def FnIsDigitIsHexLetterSistersSaid : Prop := fnIsDigitIsHexLetterSistersRow.holds Try.pinned (OpenSpec.ofChange fnIsDigitIsHexLetterSistersSpec)

/-- ITS FALSE NEIGHBOUR: 'it returns false'. Refute it at one input. -/
def fnIsDigitIsHexLetterSistersWrong : ChangeSpec := { name := "fnIsDigitIsHexLetterSisters", fn := fun _ => fun
  | [] => { results := [.lit (.bool false)], args := [] }
  | _ => none }
def FnIsDigitIsHexLetterSistersWrongFalsely : Prop := fnIsDigitIsHexLetterSistersRow.holds Try.pinned (OpenSpec.ofChange fnIsDigitIsHexLetterSistersWrong)

end Rows
end Go.Proofs.Qxb6615880a
