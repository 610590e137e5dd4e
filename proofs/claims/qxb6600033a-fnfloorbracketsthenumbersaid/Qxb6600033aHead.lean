/-
  THE CLOSED FACTS OF THIS SEAT's PROGRAM THAT HANG ON ITS HEAD (the long word 'initOrder'): the head is parted into its words by a lemma; reckoned straight by the kernel each of these facts outgrows the memory lid.
-/
import Derived.Test.Qxb6600033aRows
import Derived.WalkKit
import Derived.ProofKit
namespace Go.Proofs.Qxb6600033a

def sg (l : List Nat) : List Char := l.map Char.ofNat
def head1 : List Char := sg [104, 97, 114, 110, 101, 115, 115]
def head2 : List Char := sg [102, 54, 55, 98, 48, 53, 102, 57, 101, 101, 53, 56, 49, 97, 100, 57, 101, 99, 98, 53, 99, 102, 53, 55, 100, 51, 102, 51, 102, 51, 100, 50, 57, 52, 55, 102, 49, 98, 100, 101, 57, 49, 97, 53, 100, 102, 48, 51, 49, 99, 101, 98, 98, 52, 55, 55, 53, 99, 99, 51, 51, 54, 100, 53]
def head3 : List Char := sg [99, 117, 116]
def head4 : List Char := sg [97, 116, 32, 101, 120, 97, 109, 112, 108, 101, 46, 99, 111, 109, 47, 102, 111, 114, 109, 97, 116, 45, 102, 117, 110, 99, 116, 105, 111, 110, 115, 47, 102, 111, 114, 109, 97, 116, 45, 102, 117, 110, 99, 116, 105, 111, 110, 115, 47, 122, 122, 108, 97, 119, 115, 95, 105, 110, 116, 101, 114, 110, 97, 108, 95, 100, 101, 99, 105, 109, 97, 108, 95, 98, 49, 46, 70, 110, 82, 111, 117, 110, 100, 73, 115, 72, 97, 108, 102, 69, 118, 101, 110, 84, 111, 75, 101, 101, 112, 68, 105, 103, 105, 116, 115, 32, 101, 120, 97, 109, 112, 108, 101, 46, 99, 111, 109, 47, 102, 111, 114, 109, 97, 116, 45, 102, 117, 110, 99, 116, 105, 111, 110, 115, 47, 102, 111, 114, 109, 97, 116, 45, 102, 117, 110, 99, 116, 105, 111, 110, 115, 47, 122, 122, 108, 97, 119, 115, 95, 105, 110, 116, 101, 114, 110, 97, 108, 95, 100, 101, 99, 105, 109, 97, 108, 95, 98, 49, 46, 70, 110, 82, 111, 117, 110, 100, 73, 115, 73, 100, 101, 109, 112, 111, 116, 101, 110, 116, 32, 101, 120, 97, 109, 112, 108, 101, 46, 99, 111, 109, 47, 102, 111, 114, 109, 97, 116, 45, 102, 117, 110, 99, 116, 105, 111, 110, 115, 47, 102, 111, 114, 109, 97, 116, 45, 102, 117, 110, 99, 116, 105, 111, 110, 115, 47, 122, 122, 108, 97, 119, 115, 95, 105, 110, 116, 101, 114, 110, 97, 108, 95, 100, 101, 99, 105, 109, 97, 108, 95, 98, 49, 46, 70, 110, 82, 111, 117, 110, 100, 75, 101, 101, 112, 115, 79, 114, 100, 101, 114, 32, 101, 120, 97, 109, 112, 108, 101, 46, 99, 111, 109, 47, 102, 111, 114, 109, 97, 116, 45, 102, 117, 110, 99, 116, 105, 111, 110, 115, 47, 102, 111, 114, 109, 97, 116, 45, 102, 117, 110, 99, 116, 105, 111, 110, 115, 47, 122, 122, 108, 97, 119, 115, 95, 105, 110, 116, 101, 114, 110, 97, 108, 95, 100, 101, 99, 105, 109, 97, 108, 95, 98, 49, 46, 70, 110, 70, 108, 111, 111, 114, 66, 114, 97, 99, 107, 101, 116, 115, 84, 104, 101, 78, 117, 109, 98, 101, 114, 32, 101, 120, 97, 109, 112, 108, 101, 46, 99, 111, 109, 47, 102, 111, 114, 109, 97, 116, 45, 102, 117, 110, 99, 116, 105, 111, 110, 115, 47, 102, 111, 114, 109, 97, 116, 45, 102, 117, 110, 99, 116, 105, 111, 110, 115, 47, 122, 122, 108, 97, 119, 115, 95, 105, 110, 116, 101, 114, 110, 97, 108, 95, 100, 101, 99, 105, 109, 97, 108, 95, 98, 49, 46, 70, 110, 70, 108, 111, 111, 114, 75, 101, 101, 112, 115, 79, 114, 100, 101, 114, 32, 101, 120, 97, 109, 112, 108, 101, 46, 99, 111, 109, 47, 102, 111, 114, 109, 97, 116, 45, 102, 117, 110, 99, 116, 105, 111, 110, 115, 47, 102, 111, 114, 109, 97, 116, 45, 102, 117, 110, 99, 116, 105, 111, 110, 115, 47, 122, 122, 108, 97, 119, 115, 95, 105, 110, 116, 101, 114, 110, 97, 108, 95, 100, 101, 99, 105, 109, 97, 108, 95, 98, 49, 46, 70, 110, 70, 108, 111, 111, 114, 79, 102, 70, 105, 110, 101, 114, 80, 108, 97, 99, 101, 115, 65, 103, 114, 101, 101, 115, 32, 101, 120, 97, 109, 112, 108, 101, 46, 99, 111, 109, 47, 102, 111, 114, 109, 97, 116, 45, 102, 117, 110, 99, 116, 105, 111, 110, 115, 47, 102, 111, 114, 109, 97, 116, 45, 102, 117, 110, 99, 116, 105, 111, 110, 115, 47, 122, 122, 108, 97, 119, 115, 95, 105, 110, 116, 101, 114, 110, 97, 108, 95, 100, 101, 99, 105, 109, 97, 108, 95, 98, 49, 46, 70, 110, 83, 104, 105, 102, 116, 77, 97, 116, 99, 104, 101, 115, 66, 105, 116, 77, 111, 100, 101, 108, 32, 101, 120, 97, 109, 112, 108, 101, 46, 99, 111, 109, 47, 102, 111, 114, 109, 97, 116, 45, 102, 117, 110, 99, 116, 105, 111, 110, 115, 47, 102, 111, 114, 109, 97, 116, 45, 102, 117, 110, 99, 116, 105, 111, 110, 115, 47, 122, 122, 108, 97, 119, 115, 95, 105, 110, 116, 101, 114, 110, 97, 108, 95, 100, 101, 99, 105, 109, 97, 108, 95, 98, 49, 46, 70, 110, 83, 104, 105, 102, 116, 69, 120, 97, 99, 116, 73, 115, 85, 110, 100, 111, 110, 101, 32, 101, 120, 97, 109, 112, 108, 101, 46, 99, 111, 109, 47, 102, 111, 114, 109, 97, 116, 45, 102, 117, 110, 99, 116, 105, 111, 110, 115, 47, 102, 111, 114, 109, 97, 116, 45, 102, 117, 110, 99, 116, 105, 111, 110, 115, 47, 122, 122, 108, 97, 119, 115, 95, 105, 110, 116, 101, 114, 110, 97, 108, 95, 100, 101, 99, 105, 109, 97, 108, 95, 98, 49, 46, 70, 110, 83, 104, 105, 102, 116, 67, 111, 109, 112, 111, 115, 101, 115]
theorem head_of : Try.prog.initOrder = String.ofList (head1 ++ ' ' :: (head2 ++ ' ' :: (head3 ++ ' ' :: head4))) := by kernel_rfl
theorem head_list : Try.prog.initOrder.toList = head1 ++ ' ' :: (head2 ++ ' ' :: (head3 ++ ' ' :: head4)) := by rw [head_of, String.toList_ofList]

theorem words_app (r : List Char) : ∀ w : List Char, w.all (fun c => c != ' ') = true → wordsSigns (w ++ ' ' :: r) = w :: wordsSigns r
  | [], _ => by simp [wordsSigns]
  | c :: w, h => by
    simp only [List.all_cons, Bool.and_eq_true, bne_iff_ne] at h
    have ih := words_app r w h.2
    rw [List.cons_append, wordsSigns, ih]
    exact h.1

def headRest : List (List Char) := wordsSigns head4
theorem words_of : wordsSigns Try.prog.initOrder.toList = head1 :: head2 :: head3 :: headRest := by
  rw [head_list, words_app _ head1 (by kernel_rfl), words_app _ head2 (by kernel_rfl), words_app _ head3 (by kernel_rfl)]
  rfl
theorem sum_of : isSumSigns head2 = true := by kernel_rfl
theorem main_of : (head1 == "harness".toList) = true := by kernel_rfl
theorem behind_of : behindMainWord (wordsSigns Try.prog.initOrder.toList) = head3 :: headRest := by
  rw [words_of, behindMainWord, main_of, sum_of]
  rfl
theorem cut_of : head3 = "cut".toList := by kernel_rfl
theorem lays_later : Try.prog.laysLater = false := by kernel_rfl
theorem bears_reflect : Try.prog.bearsReflect = false := by kernel_rfl
theorem door_fits : Try.prog.doorFits [] = true := by kernel_rfl
theorem strip_of (T : List (List Char)) : stripLifts liftWords (head3 :: T) = ([], head3 :: T) := by kernel_rfl

section
variable (P : Program) (T : List (List Char))
theorem may_of (h : behindMainWord (wordsSigns P.initOrder.toList) = head3 :: T) (h1 : P.laysLater = false) (h2 : P.bearsReflect = false) (h3 : P.doorFits [] = true) : P.mayEnter = true := by
  unfold Program.mayEnter
  rw [h]
  have e1 : (head3 :: T).head? = some "cut".toList := by rw [cut_of]; rfl
  simp only [strip_of T, h1, h2, h3, e1]
  simp
theorem lifts_of (h : behindMainWord (wordsSigns P.initOrder.toList) = head3 :: T) : P.liftsFinal = false := by
  unfold Program.liftsFinal Program.headLifts
  have e1 : (head3 :: T).head? = some "cut".toList := by rw [cut_of]; rfl
  simp only [h, strip_of T, e1]
  simp
theorem make_of (h : behindMainWord (wordsSigns P.initOrder.toList) = head3 :: T) : P.make = some .cut := by
  unfold Program.make
  rw [h]
  have e2 : (head3 == "gc".toList) = false := by rw [cut_of]; kernel_rfl
  have e3 : (head3 == "spec".toList) = false := by rw [cut_of]; kernel_rfl
  have e4 : (head3 == "cut".toList) = true := by rw [cut_of]; kernel_rfl
  simp only [e2, e3, e4, Bool.or_self, Bool.false_eq_true, if_false, Bool.true_or, if_true]
end
theorem may_enter : Try.prog.mayEnter = true := may_of Try.prog headRest behind_of lays_later bears_reflect door_fits
theorem lifts_final : Try.prog.liftsFinal = false := lifts_of Try.prog headRest behind_of
theorem make_cut : Try.prog.make = some .cut := make_of Try.prog headRest behind_of
end Go.Proofs.Qxb6600033a
