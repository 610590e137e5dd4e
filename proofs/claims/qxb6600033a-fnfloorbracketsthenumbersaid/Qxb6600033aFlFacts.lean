/-
  THE CLOSED FACTS OF THE ROW 'fnFloorBracketsTheNumberRow', ONE THEOREM EACH (in one declaration they outgrow the memory lid).
-/
import Derived.Test.Qxb6600033aHead
import Derived.WalkKit
import Derived.ProofKit
namespace Go.Proofs.Qxb6600033a.fnFloorBracketsTheNumber
open Go.ChangeShapes Go.WideShapes Go.ChangeAt Go.RowKit

theorem and2 {a b : Bool} (ha : a = true) (hb : b = true) : (a && b) = true := by rw [ha, hb]; rfl
theorem k1 : Rows.fnFloorBracketsTheNumberRow.wf (OpenSpec.ofChange Rows.fnFloorBracketsTheNumberSpec) = true := by kernel_rfl
theorem k2 : laidOutB Try.prog = true := by kernel_rfl
theorem k3 : mapsRowed Try.prog = true := by kernel_rfl
theorem k4 : Try.f6.params.all (Try.prog.readableRec ·) = true := by kernel_rfl
theorem k5 : namedTie Try.prog Rows.fnFloorBracketsTheNumberRow.named Rows.fnFloorBracketsTheNumberSpec.vars = true := by kernel_rfl
theorem k6 : (Rows.fnFloorBracketsTheNumberRow.stops == []) = true := by kernel_rfl
theorem k7 : (Try.prog.stops == []) = true := by kernel_rfl
theorem k8 : (Rows.fnFloorBracketsTheNumberRow.knobs == []) = true := by kernel_rfl
theorem k9 : (Try.prog.stopKnobs == []) = true := by kernel_rfl
theorem k10 : (Rows.fnFloorBracketsTheNumberRow.inPlace == Try.prog.inPlace 6) = true := by kernel_rfl
theorem k11 : (Rows.fnFloorBracketsTheNumberRow.unfollowed == Try.prog.unfollowed 6) = true := by kernel_rfl
theorem k12 : (Rows.fnFloorBracketsTheNumberRow.recurses == Try.prog.recurses 6) = true := by kernel_rfl
theorem k13 : (Rows.fnFloorBracketsTheNumberRow.named == Try.prog.varsNamed 6) = true := by kernel_rfl
theorem k14 : (Rows.fnFloorBracketsTheNumberRow.maps == (Try.f6.params.toList ++ Rows.fnFloorBracketsTheNumberSpec.plain.varTypes Try.prog).any (Try.prog.mapsRec ·)) = true := by kernel_rfl
theorem k15 : (Rows.fnFloorBracketsTheNumberRow.ifaces == (Try.f6.params.toList ++ Rows.fnFloorBracketsTheNumberSpec.plain.varTypes Try.prog).any (Try.prog.ifacesRec ·)) = true := by kernel_rfl
theorem k16 : (Rows.fnFloorBracketsTheNumberRow.mapsOut == Try.prog.mapsAmong Try.f6.resultTypes.toList) = true := by kernel_rfl
theorem k17 : (Rows.fnFloorBracketsTheNumberRow.loops == (Try.f6.params.toList ++ Rows.fnFloorBracketsTheNumberSpec.plain.varTypes Try.prog).any (Try.prog.loopsFrom ·)) = true := by kernel_rfl
theorem k18 : (Rows.fnFloorBracketsTheNumberRow.wideKeys == (Try.f6.params.toList ++ Rows.fnFloorBracketsTheNumberSpec.plain.varTypes Try.prog ++ Try.f6.resultTypes.toList).any (Try.prog.wideKeysFrom ·)) = true := by kernel_rfl
theorem k19 : Rows.fnFloorBracketsTheNumberSpec.vars.all (Try.prog.varReadable ·) = true := by kernel_rfl
theorem k20 : Try.f6.resultTypes.all (fun t => Try.prog.readableRec t && decide (t < Try.prog.types.size)) = true := by kernel_rfl
theorem k21 : (Rows.fnFloorBracketsTheNumberRow.ifacesOut == Try.f6.resultTypes.toList.any (Try.prog.ifacesRec ·)) = true := by kernel_rfl
theorem k22 : (Rows.fnFloorBracketsTheNumberRow.loopsOut == Try.f6.resultTypes.toList.any (Try.prog.loopsFrom ·)) = true := by kernel_rfl
theorem k23 : (Rows.fnFloorBracketsTheNumberRow.plainKeys == Try.prog.plainKeys) = true := by kernel_rfl
theorem k24 : Rows.fnFloorBracketsTheNumberRow.shortTexts.isNone = true := by kernel_rfl
theorem k25 : Try.prog.stopsHeard = true := by kernel_rfl
theorem k26 : Try.prog.mayEnter = true := may_enter
theorem k27 : (Rows.fnFloorBracketsTheNumberRow.lifted == Try.prog.liftsFinal) = true := by rw [lifts_final]; rfl
theorem k28 : (Try.prog.make == some Rows.fnFloorBracketsTheNumberRow.make) = true := by rw [make_cut]; rfl
theorem k29 : (Rows.fnFloorBracketsTheNumberRow.kinds == (if Rows.fnFloorBracketsTheNumberRow.domain.isEmpty then [] else Try.f6.params.toList.map fun t => match Try.prog.underlying t with | some (.int k) => some k | _ => none)) = true := by kernel_rfl
theorem k30 : (Rows.fnFloorBracketsTheNumberRow.pinned == Rows.fnFloorBracketsTheNumberRow.pinnedBy) = true := by kernel_rfl
theorem k31 : (Rows.fnFloorBracketsTheNumberRow.veiled == (Try.f6.params.toList ++ Rows.fnFloorBracketsTheNumberSpec.plain.varTypes Try.prog ++ Try.f6.resultTypes.toList).any (Try.prog.veiledRec ·)) = true := by kernel_rfl
theorem k32 : Rows.fnFloorBracketsTheNumberRow.veiledFits Try.prog Try.f6.params.toList (Try.f6.params.toList ++ Rows.fnFloorBracketsTheNumberSpec.plain.varTypes Try.prog ++ Try.f6.resultTypes.toList) = true := by kernel_rfl
theorem closed : joinedFacts Try.prog 6 Try.f6 Rows.fnFloorBracketsTheNumberSpec Rows.fnFloorBracketsTheNumberRow = true := by
  unfold joinedFacts
  exact (and2 (and2 (and2 (and2 (and2 (and2 (and2 (and2 (and2 (and2 (and2 (and2 (and2 (and2 (and2 (and2 (and2 (and2 (and2 (and2 (and2 (and2 (and2 (and2 (and2 (and2 (and2 (and2 (and2 (and2 (and2 k1 k2) k3) k4) k5) k6) k7) k8) k9) k10) k11) k12) k13) k14) k15) k16) k17) k18) k19) k20) k21) k22) k23) k24) k25) k26) k27) k28) k29) k30) k31) k32)
theorem named : Try.prog.funcNamed Rows.fnFloorBracketsTheNumberRow.func = some 6 := by kernel_rfl
end Go.Proofs.Qxb6600033a.fnFloorBracketsTheNumber
