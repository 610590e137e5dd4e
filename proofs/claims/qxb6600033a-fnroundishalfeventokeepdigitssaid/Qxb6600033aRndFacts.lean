/-
  THE CLOSED FACTS OF THE ROW 'fnRoundIsHalfEvenToKeepDigitsRow', ONE THEOREM EACH (in one declaration they outgrow the memory lid).
-/
import Derived.Test.Qxb6600033aHead
import Derived.WalkKit
import Derived.ProofKit
namespace Go.Proofs.Qxb6600033a.fnRoundIsHalfEvenToKeepDigits
open Go.ChangeShapes Go.WideShapes Go.ChangeAt Go.RowKit

theorem and2 {a b : Bool} (ha : a = true) (hb : b = true) : (a && b) = true := by rw [ha, hb]; rfl
theorem k1 : Rows.fnRoundIsHalfEvenToKeepDigitsRow.wf (OpenSpec.ofChange Rows.fnRoundIsHalfEvenToKeepDigitsSpec) = true := by kernel_rfl
theorem k2 : laidOutB Try.prog = true := by kernel_rfl
theorem k3 : mapsRowed Try.prog = true := by kernel_rfl
theorem k4 : Try.f3.params.all (Try.prog.readableRec ·) = true := by kernel_rfl
theorem k5 : namedTie Try.prog Rows.fnRoundIsHalfEvenToKeepDigitsRow.named Rows.fnRoundIsHalfEvenToKeepDigitsSpec.vars = true := by kernel_rfl
theorem k6 : (Rows.fnRoundIsHalfEvenToKeepDigitsRow.stops == []) = true := by kernel_rfl
theorem k7 : (Try.prog.stops == []) = true := by kernel_rfl
theorem k8 : (Rows.fnRoundIsHalfEvenToKeepDigitsRow.knobs == []) = true := by kernel_rfl
theorem k9 : (Try.prog.stopKnobs == []) = true := by kernel_rfl
theorem k10 : (Rows.fnRoundIsHalfEvenToKeepDigitsRow.inPlace == Try.prog.inPlace 3) = true := by kernel_rfl
theorem k11 : (Rows.fnRoundIsHalfEvenToKeepDigitsRow.unfollowed == Try.prog.unfollowed 3) = true := by kernel_rfl
theorem k12 : (Rows.fnRoundIsHalfEvenToKeepDigitsRow.recurses == Try.prog.recurses 3) = true := by kernel_rfl
theorem k13 : (Rows.fnRoundIsHalfEvenToKeepDigitsRow.named == Try.prog.varsNamed 3) = true := by kernel_rfl
theorem k14 : (Rows.fnRoundIsHalfEvenToKeepDigitsRow.maps == (Try.f3.params.toList ++ Rows.fnRoundIsHalfEvenToKeepDigitsSpec.plain.varTypes Try.prog).any (Try.prog.mapsRec ·)) = true := by kernel_rfl
theorem k15 : (Rows.fnRoundIsHalfEvenToKeepDigitsRow.ifaces == (Try.f3.params.toList ++ Rows.fnRoundIsHalfEvenToKeepDigitsSpec.plain.varTypes Try.prog).any (Try.prog.ifacesRec ·)) = true := by kernel_rfl
theorem k16 : (Rows.fnRoundIsHalfEvenToKeepDigitsRow.mapsOut == Try.prog.mapsAmong Try.f3.resultTypes.toList) = true := by kernel_rfl
theorem k17 : (Rows.fnRoundIsHalfEvenToKeepDigitsRow.loops == (Try.f3.params.toList ++ Rows.fnRoundIsHalfEvenToKeepDigitsSpec.plain.varTypes Try.prog).any (Try.prog.loopsFrom ·)) = true := by kernel_rfl
theorem k18 : (Rows.fnRoundIsHalfEvenToKeepDigitsRow.wideKeys == (Try.f3.params.toList ++ Rows.fnRoundIsHalfEvenToKeepDigitsSpec.plain.varTypes Try.prog ++ Try.f3.resultTypes.toList).any (Try.prog.wideKeysFrom ·)) = true := by kernel_rfl
theorem k19 : Rows.fnRoundIsHalfEvenToKeepDigitsSpec.vars.all (Try.prog.varReadable ·) = true := by kernel_rfl
theorem k20 : Try.f3.resultTypes.all (fun t => Try.prog.readableRec t && decide (t < Try.prog.types.size)) = true := by kernel_rfl
theorem k21 : (Rows.fnRoundIsHalfEvenToKeepDigitsRow.ifacesOut == Try.f3.resultTypes.toList.any (Try.prog.ifacesRec ·)) = true := by kernel_rfl
theorem k22 : (Rows.fnRoundIsHalfEvenToKeepDigitsRow.loopsOut == Try.f3.resultTypes.toList.any (Try.prog.loopsFrom ·)) = true := by kernel_rfl
theorem k23 : (Rows.fnRoundIsHalfEvenToKeepDigitsRow.plainKeys == Try.prog.plainKeys) = true := by kernel_rfl
theorem k24 : Rows.fnRoundIsHalfEvenToKeepDigitsRow.shortTexts.isNone = true := by kernel_rfl
theorem k25 : Try.prog.stopsHeard = true := by kernel_rfl
theorem k26 : Try.prog.mayEnter = true := may_enter
theorem k27 : (Rows.fnRoundIsHalfEvenToKeepDigitsRow.lifted == Try.prog.liftsFinal) = true := by rw [lifts_final]; rfl
theorem k28 : (Try.prog.make == some Rows.fnRoundIsHalfEvenToKeepDigitsRow.make) = true := by rw [make_cut]; rfl
theorem k29 : (Rows.fnRoundIsHalfEvenToKeepDigitsRow.kinds == (if Rows.fnRoundIsHalfEvenToKeepDigitsRow.domain.isEmpty then [] else Try.f3.params.toList.map fun t => match Try.prog.underlying t with | some (.int k) => some k | _ => none)) = true := by kernel_rfl
theorem k30 : (Rows.fnRoundIsHalfEvenToKeepDigitsRow.pinned == Rows.fnRoundIsHalfEvenToKeepDigitsRow.pinnedBy) = true := by kernel_rfl
theorem k31 : (Rows.fnRoundIsHalfEvenToKeepDigitsRow.veiled == (Try.f3.params.toList ++ Rows.fnRoundIsHalfEvenToKeepDigitsSpec.plain.varTypes Try.prog ++ Try.f3.resultTypes.toList).any (Try.prog.veiledRec ·)) = true := by kernel_rfl
theorem k32 : Rows.fnRoundIsHalfEvenToKeepDigitsRow.veiledFits Try.prog Try.f3.params.toList (Try.f3.params.toList ++ Rows.fnRoundIsHalfEvenToKeepDigitsSpec.plain.varTypes Try.prog ++ Try.f3.resultTypes.toList) = true := by kernel_rfl
theorem closed : joinedFacts Try.prog 3 Try.f3 Rows.fnRoundIsHalfEvenToKeepDigitsSpec Rows.fnRoundIsHalfEvenToKeepDigitsRow = true := by
  unfold joinedFacts
  exact (and2 (and2 (and2 (and2 (and2 (and2 (and2 (and2 (and2 (and2 (and2 (and2 (and2 (and2 (and2 (and2 (and2 (and2 (and2 (and2 (and2 (and2 (and2 (and2 (and2 (and2 (and2 (and2 (and2 (and2 (and2 k1 k2) k3) k4) k5) k6) k7) k8) k9) k10) k11) k12) k13) k14) k15) k16) k17) k18) k19) k20) k21) k22) k23) k24) k25) k26) k27) k28) k29) k30) k31) k32)
theorem named : Try.prog.funcNamed Rows.fnRoundIsHalfEvenToKeepDigitsRow.func = some 3 := by kernel_rfl
end Go.Proofs.Qxb6600033a.fnRoundIsHalfEvenToKeepDigits
