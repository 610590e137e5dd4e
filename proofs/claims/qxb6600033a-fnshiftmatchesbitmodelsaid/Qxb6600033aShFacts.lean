/-
  THE CLOSED FACTS OF THE ROW 'fnShiftMatchesBitModelRow', ONE THEOREM EACH (in one declaration they outgrow the memory lid).
-/
import Derived.Test.Qxb6600033aHead
import Derived.WalkKit
import Derived.ProofKit
namespace Go.Proofs.Qxb6600033a.fnShiftMatchesBitModel
open Go.ChangeShapes Go.WideShapes Go.ChangeAt Go.RowKit

theorem and2 {a b : Bool} (ha : a = true) (hb : b = true) : (a && b) = true := by rw [ha, hb]; rfl
theorem k1 : Rows.fnShiftMatchesBitModelRow.wf (OpenSpec.ofChange Rows.fnShiftMatchesBitModelSpec) = true := by kernel_rfl
theorem k2 : laidOutB Try.prog = true := by kernel_rfl
theorem k3 : mapsRowed Try.prog = true := by kernel_rfl
theorem k4 : Try.f9.params.all (Try.prog.readableRec ·) = true := by kernel_rfl
theorem k5 : namedTie Try.prog Rows.fnShiftMatchesBitModelRow.named Rows.fnShiftMatchesBitModelSpec.vars = true := by kernel_rfl
theorem k6 : (Rows.fnShiftMatchesBitModelRow.stops == []) = true := by kernel_rfl
theorem k7 : (Try.prog.stops == []) = true := by kernel_rfl
theorem k8 : (Rows.fnShiftMatchesBitModelRow.knobs == []) = true := by kernel_rfl
theorem k9 : (Try.prog.stopKnobs == []) = true := by kernel_rfl
theorem k10 : (Rows.fnShiftMatchesBitModelRow.inPlace == Try.prog.inPlace 9) = true := by kernel_rfl
theorem k11 : (Rows.fnShiftMatchesBitModelRow.unfollowed == Try.prog.unfollowed 9) = true := by kernel_rfl
theorem k12 : (Rows.fnShiftMatchesBitModelRow.recurses == Try.prog.recurses 9) = true := by kernel_rfl
theorem k13 : (Rows.fnShiftMatchesBitModelRow.named == Try.prog.varsNamed 9) = true := by kernel_rfl
theorem k14 : (Rows.fnShiftMatchesBitModelRow.maps == (Try.f9.params.toList ++ Rows.fnShiftMatchesBitModelSpec.plain.varTypes Try.prog).any (Try.prog.mapsRec ·)) = true := by kernel_rfl
theorem k15 : (Rows.fnShiftMatchesBitModelRow.ifaces == (Try.f9.params.toList ++ Rows.fnShiftMatchesBitModelSpec.plain.varTypes Try.prog).any (Try.prog.ifacesRec ·)) = true := by kernel_rfl
theorem k16 : (Rows.fnShiftMatchesBitModelRow.mapsOut == Try.prog.mapsAmong Try.f9.resultTypes.toList) = true := by kernel_rfl
theorem k17 : (Rows.fnShiftMatchesBitModelRow.loops == (Try.f9.params.toList ++ Rows.fnShiftMatchesBitModelSpec.plain.varTypes Try.prog).any (Try.prog.loopsFrom ·)) = true := by kernel_rfl
theorem k18 : (Rows.fnShiftMatchesBitModelRow.wideKeys == (Try.f9.params.toList ++ Rows.fnShiftMatchesBitModelSpec.plain.varTypes Try.prog ++ Try.f9.resultTypes.toList).any (Try.prog.wideKeysFrom ·)) = true := by kernel_rfl
theorem k19 : Rows.fnShiftMatchesBitModelSpec.vars.all (Try.prog.varReadable ·) = true := by kernel_rfl
theorem k20 : Try.f9.resultTypes.all (fun t => Try.prog.readableRec t && decide (t < Try.prog.types.size)) = true := by kernel_rfl
theorem k21 : (Rows.fnShiftMatchesBitModelRow.ifacesOut == Try.f9.resultTypes.toList.any (Try.prog.ifacesRec ·)) = true := by kernel_rfl
theorem k22 : (Rows.fnShiftMatchesBitModelRow.loopsOut == Try.f9.resultTypes.toList.any (Try.prog.loopsFrom ·)) = true := by kernel_rfl
theorem k23 : (Rows.fnShiftMatchesBitModelRow.plainKeys == Try.prog.plainKeys) = true := by kernel_rfl
theorem k24 : Rows.fnShiftMatchesBitModelRow.shortTexts.isNone = true := by kernel_rfl
theorem k25 : Try.prog.stopsHeard = true := by kernel_rfl
theorem k26 : Try.prog.mayEnter = true := may_enter
theorem k27 : (Rows.fnShiftMatchesBitModelRow.lifted == Try.prog.liftsFinal) = true := by rw [lifts_final]; rfl
theorem k28 : (Try.prog.make == some Rows.fnShiftMatchesBitModelRow.make) = true := by rw [make_cut]; rfl
theorem k29 : (Rows.fnShiftMatchesBitModelRow.kinds == (if Rows.fnShiftMatchesBitModelRow.domain.isEmpty then [] else Try.f9.params.toList.map fun t => match Try.prog.underlying t with | some (.int k) => some k | _ => none)) = true := by kernel_rfl
theorem k30 : (Rows.fnShiftMatchesBitModelRow.pinned == Rows.fnShiftMatchesBitModelRow.pinnedBy) = true := by kernel_rfl
theorem k31 : (Rows.fnShiftMatchesBitModelRow.veiled == (Try.f9.params.toList ++ Rows.fnShiftMatchesBitModelSpec.plain.varTypes Try.prog ++ Try.f9.resultTypes.toList).any (Try.prog.veiledRec ·)) = true := by kernel_rfl
theorem k32 : Rows.fnShiftMatchesBitModelRow.veiledFits Try.prog Try.f9.params.toList (Try.f9.params.toList ++ Rows.fnShiftMatchesBitModelSpec.plain.varTypes Try.prog ++ Try.f9.resultTypes.toList) = true := by kernel_rfl
theorem closed : joinedFacts Try.prog 9 Try.f9 Rows.fnShiftMatchesBitModelSpec Rows.fnShiftMatchesBitModelRow = true := by
  unfold joinedFacts
  exact (and2 (and2 (and2 (and2 (and2 (and2 (and2 (and2 (and2 (and2 (and2 (and2 (and2 (and2 (and2 (and2 (and2 (and2 (and2 (and2 (and2 (and2 (and2 (and2 (and2 (and2 (and2 (and2 (and2 (and2 (and2 k1 k2) k3) k4) k5) k6) k7) k8) k9) k10) k11) k12) k13) k14) k15) k16) k17) k18) k19) k20) k21) k22) k23) k24) k25) k26) k27) k28) k29) k30) k31) k32)
theorem named : Try.prog.funcNamed Rows.fnShiftMatchesBitModelRow.func = some 9 := by kernel_rfl
end Go.Proofs.Qxb6600033a.fnShiftMatchesBitModel
