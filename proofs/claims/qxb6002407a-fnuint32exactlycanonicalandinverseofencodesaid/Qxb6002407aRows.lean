/-
  No cell of these rows narrows 'for every input' (looked for: loops, veiled, ifaces, maps, wideKeys, modest, calm, conditions, laid).
  DERIVED. THE GIVEN ROWS OF THIS SEAT. 2 by the template 'for every input the law returns true; each argument reads behind the call as it read before'; 0 by the template 'total and deterministic' (their statements: Qxb6002407aTotals.lean).
  GIVEN WITH THE SEED: the statements are not yours to turn. If you find one false, say at which input.
  Laid BY PROGRAM, IN A SANDBOX (cutbox-rows.mjs): the forced cells as the released guide's own fill.sh prints them over the translation 674ccfb74d8c8964… (all of the seat's roots in one cut). By AI agents, Wed Nov 11 2026. No macro, syntax, notation, axiom, sorry.
-/
import Derived.Test.Qxb6002407aChecked
import GoSem.Claim
import GoSem.ClaimJoined
import GoSem.ClaimMapViews
import Derived.JoinedTies
import Derived.KernelRfl
namespace Go.Proofs.Qxb6002407a
/- THE CELL 'sum', in the pinned program and in every row, IS THE sha256 OF THE DUMP (.gsa) THAT Qxb6002407aProg.lean LOADS. Nothing in Lean hashes anything: it is a label: what it is worth is what the hold of that sum in a sandbox is worth. -/
noncomputable def Try.pinned : Pinned := { name := "qxb6002407a", sum := "674ccfb74d8c896465f25da0edb9340c25f271ffb02fb3c097083f6000cb9568", checked := Try.checked }
namespace Rows
def none {H : Type} : Left H := { results := [], args := [] }

/-- 'zzlaws_internal_der_g1.FnUint32ExactlyCanonicalAndInverseOfEncode': WHATEVER THE INPUT: true; the input reads as it did. -/
def fnUint32ExactlyCanonicalAndInverseOfEncodeSpec : ChangeSpec := { name := "fnUint32ExactlyCanonicalAndInverseOfEncode", fn := fun _ => fun
  | [d1, d2] => { results := [.lit (.bool true)], args := [d1, d2] }
  | _ => none }
def fnUint32ExactlyCanonicalAndInverseOfEncodeRow : OpenClaim := { program := "qxb6002407a", sum := "674ccfb74d8c896465f25da0edb9340c25f271ffb02fb3c097083f6000cb9568", func := "example.com/provisor/provisor/zzlaws_internal_der_g1.FnUint32ExactlyCanonicalAndInverseOfEncode", spec := "fnUint32ExactlyCanonicalAndInverseOfEncode", apart := false }
def FnUint32ExactlyCanonicalAndInverseOfEncodeSaid : Prop := fnUint32ExactlyCanonicalAndInverseOfEncodeRow.holds Try.pinned (OpenSpec.ofChange fnUint32ExactlyCanonicalAndInverseOfEncodeSpec)

/-- ITS FALSE NEIGHBOUR: 'it returns false'. Refute it at one input. -/
def fnUint32ExactlyCanonicalAndInverseOfEncodeWrong : ChangeSpec := { name := "fnUint32ExactlyCanonicalAndInverseOfEncode", fn := fun _ => fun
  | [d1, d2] => { results := [.lit (.bool false)], args := [d1, d2] }
  | _ => none }
def FnUint32ExactlyCanonicalAndInverseOfEncodeWrongFalsely : Prop := fnUint32ExactlyCanonicalAndInverseOfEncodeRow.holds Try.pinned (OpenSpec.ofChange fnUint32ExactlyCanonicalAndInverseOfEncodeWrong)

/-- 'zzlaws_internal_der_g1.FnCheckIntegerAcceptsExactlyTheShortest': WHATEVER THE INPUT: true; the input reads as it did. -/
def fnCheckIntegerAcceptsExactlyTheShortestSpec : ChangeSpec := { name := "fnCheckIntegerAcceptsExactlyTheShortest", fn := fun _ => fun
  | [d] => { results := [.lit (.bool true)], args := [d] }
  | _ => none }
def fnCheckIntegerAcceptsExactlyTheShortestRow : OpenClaim := { program := "qxb6002407a", sum := "674ccfb74d8c896465f25da0edb9340c25f271ffb02fb3c097083f6000cb9568", func := "example.com/provisor/provisor/zzlaws_internal_der_g1.FnCheckIntegerAcceptsExactlyTheShortest", spec := "fnCheckIntegerAcceptsExactlyTheShortest", apart := false }
def FnCheckIntegerAcceptsExactlyTheShortestSaid : Prop := fnCheckIntegerAcceptsExactlyTheShortestRow.holds Try.pinned (OpenSpec.ofChange fnCheckIntegerAcceptsExactlyTheShortestSpec)

/-- ITS FALSE NEIGHBOUR: 'it returns false'. Refute it at one input. -/
def fnCheckIntegerAcceptsExactlyTheShortestWrong : ChangeSpec := { name := "fnCheckIntegerAcceptsExactlyTheShortest", fn := fun _ => fun
  | [d] => { results := [.lit (.bool false)], args := [d] }
  | _ => none }
def FnCheckIntegerAcceptsExactlyTheShortestWrongFalsely : Prop := fnCheckIntegerAcceptsExactlyTheShortestRow.holds Try.pinned (OpenSpec.ofChange fnCheckIntegerAcceptsExactlyTheShortestWrong)

end Rows
end Go.Proofs.Qxb6002407a
