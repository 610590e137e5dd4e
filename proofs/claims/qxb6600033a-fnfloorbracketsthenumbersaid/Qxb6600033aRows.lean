/-
  No cell of these rows narrows 'for every input' (looked for: loops, veiled, ifaces, maps, wideKeys, modest, calm, conditions, laid).
  DERIVED. THE GIVEN ROWS OF THIS SEAT. 9 by the template 'for every input the law returns true; each argument reads behind the call as it read before'; 0 by the template 'total and deterministic' (their statements: Qxb6600033aTotals.lean).
  GIVEN WITH THE SEED: the statements are not yours to turn. If you find one false, say at which input.
  Laid BY PROGRAM, IN A SANDBOX (cutbox-rows.mjs): the forced cells as the released guide's own fill.sh prints them over the translation 47b7b7b546e53221… (all of the seat's roots in one cut). By AI agents, Wed Nov 11 2026. No macro, syntax, notation, axiom, sorry.
-/
import Derived.Test.Qxb6600033aChecked
import GoSem.Claim
import GoSem.ClaimJoined
import GoSem.ClaimMapViews
import Derived.JoinedTies
import Derived.KernelRfl
namespace Go.Proofs.Qxb6600033a
/- THE CELL 'sum', in the pinned program and in every row, IS THE sha256 OF THE DUMP (.gsa) THAT Qxb6600033aProg.lean LOADS. Nothing in Lean hashes anything: it is a label: what it is worth is what the hold of that sum in a sandbox is worth. -/
noncomputable def Try.pinned : Pinned := { name := "qxb6600033a", sum := "47b7b7b546e5322126cfddfd11b9f510598d370d4f747c334efd1572ab43872c", checked := Try.checked }
namespace Rows
def none {H : Type} : Left H := { results := [], args := [] }

/-- 'zzlaws_internal_decimal_b1.FnRoundIsHalfEvenToKeepDigits': WHATEVER THE INPUT: true; the input reads as it did. -/
def fnRoundIsHalfEvenToKeepDigitsSpec : ChangeSpec := { name := "fnRoundIsHalfEvenToKeepDigits", fn := fun _ => fun
  | [d1, d2, d3, d4, d5] => { results := [.lit (.bool true)], args := [d1, d2, d3, d4, d5] }
  | _ => none }
def fnRoundIsHalfEvenToKeepDigitsRow : OpenClaim := { program := "qxb6600033a", sum := "47b7b7b546e5322126cfddfd11b9f510598d370d4f747c334efd1572ab43872c", func := "example.com/format-functions/format-functions/zzlaws_internal_decimal_b1.FnRoundIsHalfEvenToKeepDigits", spec := "fnRoundIsHalfEvenToKeepDigits", apart := false }
def FnRoundIsHalfEvenToKeepDigitsSaid : Prop := fnRoundIsHalfEvenToKeepDigitsRow.holds Try.pinned (OpenSpec.ofChange fnRoundIsHalfEvenToKeepDigitsSpec)

/-- ITS FALSE NEIGHBOUR: 'it returns false'. Refute it at one input. -/
def fnRoundIsHalfEvenToKeepDigitsWrong : ChangeSpec := { name := "fnRoundIsHalfEvenToKeepDigits", fn := fun _ => fun
  | [d1, d2, d3, d4, d5] => { results := [.lit (.bool false)], args := [d1, d2, d3, d4, d5] }
  | _ => none }
def FnRoundIsHalfEvenToKeepDigitsWrongFalsely : Prop := fnRoundIsHalfEvenToKeepDigitsRow.holds Try.pinned (OpenSpec.ofChange fnRoundIsHalfEvenToKeepDigitsWrong)

/-- 'zzlaws_internal_decimal_b1.FnRoundIsIdempotent': WHATEVER THE INPUT: true; the input reads as it did. -/
def fnRoundIsIdempotentSpec : ChangeSpec := { name := "fnRoundIsIdempotent", fn := fun _ => fun
  | [d1, d2, d3, d4, d5] => { results := [.lit (.bool true)], args := [d1, d2, d3, d4, d5] }
  | _ => none }
def fnRoundIsIdempotentRow : OpenClaim := { program := "qxb6600033a", sum := "47b7b7b546e5322126cfddfd11b9f510598d370d4f747c334efd1572ab43872c", func := "example.com/format-functions/format-functions/zzlaws_internal_decimal_b1.FnRoundIsIdempotent", spec := "fnRoundIsIdempotent", apart := false }
def FnRoundIsIdempotentSaid : Prop := fnRoundIsIdempotentRow.holds Try.pinned (OpenSpec.ofChange fnRoundIsIdempotentSpec)

/-- ITS FALSE NEIGHBOUR: 'it returns false'. Refute it at one input. -/
def fnRoundIsIdempotentWrong : ChangeSpec := { name := "fnRoundIsIdempotent", fn := fun _ => fun
  | [d1, d2, d3, d4, d5] => { results := [.lit (.bool false)], args := [d1, d2, d3, d4, d5] }
  | _ => none }
def FnRoundIsIdempotentWrongFalsely : Prop := fnRoundIsIdempotentRow.holds Try.pinned (OpenSpec.ofChange fnRoundIsIdempotentWrong)

/-- 'zzlaws_internal_decimal_b1.FnRoundKeepsOrder': WHATEVER THE INPUT: true; the input reads as it did. -/
def fnRoundKeepsOrderSpec : ChangeSpec := { name := "fnRoundKeepsOrder", fn := fun _ => fun
  | [d1, d2, d3, d4, d5, d6, d7, d8, d9] => { results := [.lit (.bool true)], args := [d1, d2, d3, d4, d5, d6, d7, d8, d9] }
  | _ => none }
def fnRoundKeepsOrderRow : OpenClaim := { program := "qxb6600033a", sum := "47b7b7b546e5322126cfddfd11b9f510598d370d4f747c334efd1572ab43872c", func := "example.com/format-functions/format-functions/zzlaws_internal_decimal_b1.FnRoundKeepsOrder", spec := "fnRoundKeepsOrder", apart := false }
def FnRoundKeepsOrderSaid : Prop := fnRoundKeepsOrderRow.holds Try.pinned (OpenSpec.ofChange fnRoundKeepsOrderSpec)

/-- ITS FALSE NEIGHBOUR: 'it returns false'. Refute it at one input. -/
def fnRoundKeepsOrderWrong : ChangeSpec := { name := "fnRoundKeepsOrder", fn := fun _ => fun
  | [d1, d2, d3, d4, d5, d6, d7, d8, d9] => { results := [.lit (.bool false)], args := [d1, d2, d3, d4, d5, d6, d7, d8, d9] }
  | _ => none }
def FnRoundKeepsOrderWrongFalsely : Prop := fnRoundKeepsOrderRow.holds Try.pinned (OpenSpec.ofChange fnRoundKeepsOrderWrong)

/-- 'zzlaws_internal_decimal_b1.FnFloorBracketsTheNumber': WHATEVER THE INPUT: true; the input reads as it did. -/
def fnFloorBracketsTheNumberSpec : ChangeSpec := { name := "fnFloorBracketsTheNumber", fn := fun _ => fun
  | [d1, d2, d3, d4, d5] => { results := [.lit (.bool true)], args := [d1, d2, d3, d4, d5] }
  | _ => none }
def fnFloorBracketsTheNumberRow : OpenClaim := { program := "qxb6600033a", sum := "47b7b7b546e5322126cfddfd11b9f510598d370d4f747c334efd1572ab43872c", func := "example.com/format-functions/format-functions/zzlaws_internal_decimal_b1.FnFloorBracketsTheNumber", spec := "fnFloorBracketsTheNumber", unfollowed := true, recurses := true, apart := false }
def FnFloorBracketsTheNumberSaid : Prop := fnFloorBracketsTheNumberRow.holds Try.pinned (OpenSpec.ofChange fnFloorBracketsTheNumberSpec)

/-- ITS FALSE NEIGHBOUR: 'it returns false'. Refute it at one input. -/
def fnFloorBracketsTheNumberWrong : ChangeSpec := { name := "fnFloorBracketsTheNumber", fn := fun _ => fun
  | [d1, d2, d3, d4, d5] => { results := [.lit (.bool false)], args := [d1, d2, d3, d4, d5] }
  | _ => none }
def FnFloorBracketsTheNumberWrongFalsely : Prop := fnFloorBracketsTheNumberRow.holds Try.pinned (OpenSpec.ofChange fnFloorBracketsTheNumberWrong)

/-- 'zzlaws_internal_decimal_b1.FnFloorKeepsOrder': WHATEVER THE INPUT: true; the input reads as it did. -/
def fnFloorKeepsOrderSpec : ChangeSpec := { name := "fnFloorKeepsOrder", fn := fun _ => fun
  | [d1, d2, d3, d4, d5, d6, d7, d8, d9] => { results := [.lit (.bool true)], args := [d1, d2, d3, d4, d5, d6, d7, d8, d9] }
  | _ => none }
def fnFloorKeepsOrderRow : OpenClaim := { program := "qxb6600033a", sum := "47b7b7b546e5322126cfddfd11b9f510598d370d4f747c334efd1572ab43872c", func := "example.com/format-functions/format-functions/zzlaws_internal_decimal_b1.FnFloorKeepsOrder", spec := "fnFloorKeepsOrder", unfollowed := true, recurses := true, apart := false }
def FnFloorKeepsOrderSaid : Prop := fnFloorKeepsOrderRow.holds Try.pinned (OpenSpec.ofChange fnFloorKeepsOrderSpec)

/-- ITS FALSE NEIGHBOUR: 'it returns false'. Refute it at one input. -/
def fnFloorKeepsOrderWrong : ChangeSpec := { name := "fnFloorKeepsOrder", fn := fun _ => fun
  | [d1, d2, d3, d4, d5, d6, d7, d8, d9] => { results := [.lit (.bool false)], args := [d1, d2, d3, d4, d5, d6, d7, d8, d9] }
  | _ => none }
def FnFloorKeepsOrderWrongFalsely : Prop := fnFloorKeepsOrderRow.holds Try.pinned (OpenSpec.ofChange fnFloorKeepsOrderWrong)

/-- 'zzlaws_internal_decimal_b1.FnFloorOfFinerPlacesAgrees': WHATEVER THE INPUT: true; the input reads as it did. -/
def fnFloorOfFinerPlacesAgreesSpec : ChangeSpec := { name := "fnFloorOfFinerPlacesAgrees", fn := fun _ => fun
  | [d1, d2, d3, d4, d5] => { results := [.lit (.bool true)], args := [d1, d2, d3, d4, d5] }
  | _ => none }
def fnFloorOfFinerPlacesAgreesRow : OpenClaim := { program := "qxb6600033a", sum := "47b7b7b546e5322126cfddfd11b9f510598d370d4f747c334efd1572ab43872c", func := "example.com/format-functions/format-functions/zzlaws_internal_decimal_b1.FnFloorOfFinerPlacesAgrees", spec := "fnFloorOfFinerPlacesAgrees", unfollowed := true, recurses := true, apart := false }
def FnFloorOfFinerPlacesAgreesSaid : Prop := fnFloorOfFinerPlacesAgreesRow.holds Try.pinned (OpenSpec.ofChange fnFloorOfFinerPlacesAgreesSpec)

/-- ITS FALSE NEIGHBOUR: 'it returns false'. Refute it at one input. -/
def fnFloorOfFinerPlacesAgreesWrong : ChangeSpec := { name := "fnFloorOfFinerPlacesAgrees", fn := fun _ => fun
  | [d1, d2, d3, d4, d5] => { results := [.lit (.bool false)], args := [d1, d2, d3, d4, d5] }
  | _ => none }
def FnFloorOfFinerPlacesAgreesWrongFalsely : Prop := fnFloorOfFinerPlacesAgreesRow.holds Try.pinned (OpenSpec.ofChange fnFloorOfFinerPlacesAgreesWrong)

/-- 'zzlaws_internal_decimal_b1.FnShiftMatchesBitModel': WHATEVER THE INPUT: true; the input reads as it did. -/
def fnShiftMatchesBitModelSpec : ChangeSpec := { name := "fnShiftMatchesBitModel", fn := fun _ => fun
  | [d1, d2, d3] => { results := [.lit (.bool true)], args := [d1, d2, d3] }
  | _ => none }
def fnShiftMatchesBitModelRow : OpenClaim := { program := "qxb6600033a", sum := "47b7b7b546e5322126cfddfd11b9f510598d370d4f747c334efd1572ab43872c", func := "example.com/format-functions/format-functions/zzlaws_internal_decimal_b1.FnShiftMatchesBitModel", spec := "fnShiftMatchesBitModel", apart := false }
def FnShiftMatchesBitModelSaid : Prop := fnShiftMatchesBitModelRow.holds Try.pinned (OpenSpec.ofChange fnShiftMatchesBitModelSpec)

/-- ITS FALSE NEIGHBOUR: 'it returns false'. Refute it at one input. -/
def fnShiftMatchesBitModelWrong : ChangeSpec := { name := "fnShiftMatchesBitModel", fn := fun _ => fun
  | [d1, d2, d3] => { results := [.lit (.bool false)], args := [d1, d2, d3] }
  | _ => none }
def FnShiftMatchesBitModelWrongFalsely : Prop := fnShiftMatchesBitModelRow.holds Try.pinned (OpenSpec.ofChange fnShiftMatchesBitModelWrong)

/-- 'zzlaws_internal_decimal_b1.FnShiftExactIsUndone': WHATEVER THE INPUT: true; the input reads as it did. -/
def fnShiftExactIsUndoneSpec : ChangeSpec := { name := "fnShiftExactIsUndone", fn := fun _ => fun
  | [d1, d2] => { results := [.lit (.bool true)], args := [d1, d2] }
  | _ => none }
def fnShiftExactIsUndoneRow : OpenClaim := { program := "qxb6600033a", sum := "47b7b7b546e5322126cfddfd11b9f510598d370d4f747c334efd1572ab43872c", func := "example.com/format-functions/format-functions/zzlaws_internal_decimal_b1.FnShiftExactIsUndone", spec := "fnShiftExactIsUndone", apart := false }
def FnShiftExactIsUndoneSaid : Prop := fnShiftExactIsUndoneRow.holds Try.pinned (OpenSpec.ofChange fnShiftExactIsUndoneSpec)

/-- ITS FALSE NEIGHBOUR: 'it returns false'. Refute it at one input. -/
def fnShiftExactIsUndoneWrong : ChangeSpec := { name := "fnShiftExactIsUndone", fn := fun _ => fun
  | [d1, d2] => { results := [.lit (.bool false)], args := [d1, d2] }
  | _ => none }
def FnShiftExactIsUndoneWrongFalsely : Prop := fnShiftExactIsUndoneRow.holds Try.pinned (OpenSpec.ofChange fnShiftExactIsUndoneWrong)

/-- 'zzlaws_internal_decimal_b1.FnShiftComposes': WHATEVER THE INPUT: true; the input reads as it did. -/
def fnShiftComposesSpec : ChangeSpec := { name := "fnShiftComposes", fn := fun _ => fun
  | [d1, d2, d3, d4] => { results := [.lit (.bool true)], args := [d1, d2, d3, d4] }
  | _ => none }
def fnShiftComposesRow : OpenClaim := { program := "qxb6600033a", sum := "47b7b7b546e5322126cfddfd11b9f510598d370d4f747c334efd1572ab43872c", func := "example.com/format-functions/format-functions/zzlaws_internal_decimal_b1.FnShiftComposes", spec := "fnShiftComposes", apart := false }
def FnShiftComposesSaid : Prop := fnShiftComposesRow.holds Try.pinned (OpenSpec.ofChange fnShiftComposesSpec)

/-- ITS FALSE NEIGHBOUR: 'it returns false'. Refute it at one input. -/
def fnShiftComposesWrong : ChangeSpec := { name := "fnShiftComposes", fn := fun _ => fun
  | [d1, d2, d3, d4] => { results := [.lit (.bool false)], args := [d1, d2, d3, d4] }
  | _ => none }
def FnShiftComposesWrongFalsely : Prop := fnShiftComposesRow.holds Try.pinned (OpenSpec.ofChange fnShiftComposesWrong)

end Rows
end Go.Proofs.Qxb6600033a
