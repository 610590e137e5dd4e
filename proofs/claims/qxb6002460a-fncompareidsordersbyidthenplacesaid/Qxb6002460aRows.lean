/-
  No cell of these rows narrows 'for every input' (looked for: loops, veiled, ifaces, maps, wideKeys, modest, calm, conditions, laid).
  DERIVED. THE GIVEN ROWS OF THIS SEAT. 3 by the template 'for every input the law returns true; each argument reads behind the call as it read before'; 0 by the template 'total and deterministic' (their statements: Qxb6002460aTotals.lean).
  GIVEN WITH THE SEED: the statements are not yours to turn. If you find one false, say at which input.
  Laid BY PROGRAM, IN A SANDBOX (cutbox-rows.mjs): the forced cells as the released guide's own fill.sh prints them over the translation dd4b58e6fbd4655b… (all of the seat's roots in one cut). By AI agents, Wed Nov 11 2026. No macro, syntax, notation, axiom, sorry.
-/
import Derived.Test.Qxb6002460aChecked
import GoSem.Claim
import GoSem.ClaimJoined
import GoSem.ClaimMapViews
import Derived.JoinedTies
import Derived.KernelRfl
namespace Go.Proofs.Qxb6002460a
/- THE CELL 'sum', in the pinned program and in every row, IS THE sha256 OF THE DUMP (.gsa) THAT Qxb6002460aProg.lean LOADS. Nothing in Lean hashes anything: it is a label: what it is worth is what the hold of that sum in a sandbox is worth. -/
noncomputable def Try.pinned : Pinned := { name := "qxb6002460a", sum := "dd4b58e6fbd4655bf50a7013249eaa25997c9f95b1d9ee173919a3d9d2e6bdd2", checked := Try.checked }
namespace Rows
def none {H : Type} : Left H := { results := [], args := [] }

/-- 'zzlaws_register_g2.FnCompareIDsOrdersByIDThenPlace': WHATEVER THE INPUT: true; the input reads as it did. -/
def fnCompareIDsOrdersByIDThenPlaceSpec : ChangeSpec := { name := "fnCompareIDsOrdersByIDThenPlace", fn := fun _ => fun
  | [d1, d2, d3, d4, d5, d6] => { results := [.lit (.bool true)], args := [d1, d2, d3, d4, d5, d6] }
  | _ => none }
def fnCompareIDsOrdersByIDThenPlaceRow : OpenClaim := { program := "qxb6002460a", sum := "dd4b58e6fbd4655bf50a7013249eaa25997c9f95b1d9ee173919a3d9d2e6bdd2", func := "example.com/zhaomu/zhaomu/zzlaws_register_g2.FnCompareIDsOrdersByIDThenPlace", spec := "fnCompareIDsOrdersByIDThenPlace", inPlace := ["internal/bytealg.abigen_runtime_cmpstring"], apart := false }
def FnCompareIDsOrdersByIDThenPlaceSaid : Prop := fnCompareIDsOrdersByIDThenPlaceRow.holds Try.pinned (OpenSpec.ofChange fnCompareIDsOrdersByIDThenPlaceSpec)

/-- ITS FALSE NEIGHBOUR: 'it returns false'. Refute it at one input. -/
def fnCompareIDsOrdersByIDThenPlaceWrong : ChangeSpec := { name := "fnCompareIDsOrdersByIDThenPlace", fn := fun _ => fun
  | [d1, d2, d3, d4, d5, d6] => { results := [.lit (.bool false)], args := [d1, d2, d3, d4, d5, d6] }
  | _ => none }
def FnCompareIDsOrdersByIDThenPlaceWrongFalsely : Prop := fnCompareIDsOrdersByIDThenPlaceRow.holds Try.pinned (OpenSpec.ofChange fnCompareIDsOrdersByIDThenPlaceWrong)

/-- 'zzlaws_terms_g1.FnHoldingTierCoversDays': WHATEVER THE INPUT: true; the input reads as it did. -/
def fnHoldingTierCoversDaysSpec : ChangeSpec := { name := "fnHoldingTierCoversDays", fn := fun _ => fun
  | [d1, d2] => { results := [.lit (.bool true)], args := [d1, d2] }
  | _ => none }
def fnHoldingTierCoversDaysRow : OpenClaim := { program := "qxb6002460a", sum := "dd4b58e6fbd4655bf50a7013249eaa25997c9f95b1d9ee173919a3d9d2e6bdd2", func := "example.com/zhaomu/zhaomu/zzlaws_terms_g1.FnHoldingTierCoversDays", spec := "fnHoldingTierCoversDays", apart := false }
def FnHoldingTierCoversDaysSaid : Prop := fnHoldingTierCoversDaysRow.holds Try.pinned (OpenSpec.ofChange fnHoldingTierCoversDaysSpec)

/-- ITS FALSE NEIGHBOUR: 'it returns false'. Refute it at one input. -/
def fnHoldingTierCoversDaysWrong : ChangeSpec := { name := "fnHoldingTierCoversDays", fn := fun _ => fun
  | [d1, d2] => { results := [.lit (.bool false)], args := [d1, d2] }
  | _ => none }
def FnHoldingTierCoversDaysWrongFalsely : Prop := fnHoldingTierCoversDaysRow.holds Try.pinned (OpenSpec.ofChange fnHoldingTierCoversDaysWrong)

/-- 'zzlaws_terms_g1.FnHoldingTierMonotoneInDays': WHATEVER THE INPUT: true; the input reads as it did. -/
def fnHoldingTierMonotoneInDaysSpec : ChangeSpec := { name := "fnHoldingTierMonotoneInDays", fn := fun _ => fun
  | [d1, d2, d3] => { results := [.lit (.bool true)], args := [d1, d2, d3] }
  | _ => none }
def fnHoldingTierMonotoneInDaysRow : OpenClaim := { program := "qxb6002460a", sum := "dd4b58e6fbd4655bf50a7013249eaa25997c9f95b1d9ee173919a3d9d2e6bdd2", func := "example.com/zhaomu/zhaomu/zzlaws_terms_g1.FnHoldingTierMonotoneInDays", spec := "fnHoldingTierMonotoneInDays", apart := false }
def FnHoldingTierMonotoneInDaysSaid : Prop := fnHoldingTierMonotoneInDaysRow.holds Try.pinned (OpenSpec.ofChange fnHoldingTierMonotoneInDaysSpec)

/-- ITS FALSE NEIGHBOUR: 'it returns false'. Refute it at one input. -/
def fnHoldingTierMonotoneInDaysWrong : ChangeSpec := { name := "fnHoldingTierMonotoneInDays", fn := fun _ => fun
  | [d1, d2, d3] => { results := [.lit (.bool false)], args := [d1, d2, d3] }
  | _ => none }
def FnHoldingTierMonotoneInDaysWrongFalsely : Prop := fnHoldingTierMonotoneInDaysRow.holds Try.pinned (OpenSpec.ofChange fnHoldingTierMonotoneInDaysWrong)

end Rows
end Go.Proofs.Qxb6002460a
