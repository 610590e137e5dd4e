/-
  THE WALK of FnCompareIDsOrdersByIDThenPlace.
-/
import Derived.Test.Qxb6002460aCmpWalk
namespace Go.Proofs.Qxb6002460a
open Go.RowKit
set_option linter.unusedVariables false
set_option maxRecDepth 100000

theorem zz_is (a b : ByteArray) (i j C : Int) (w : World) (h : cmpID a.data.toList i b.data.toList j = C) :
    Calls Try.prog 7 #[.string a, .int .i64 i, .string b, .int .i64 j] w fun e w' => e = .returned (.int .i64 C) ∧ Below w.heap.size w w' := by
  rw [← h]; exact zzCompare a b i j w
theorem model_is (a b : ByteArray) (i j C : Int) (w : World) (ha : a.size ≤ 1048576) (hb : b.size ≤ 1048576) (h : cmpID a.data.toList i b.data.toList j = C) :
    Calls Try.prog 8 #[.string a, .int .i64 i, .string b, .int .i64 j] w fun e w' => e = .returned (.int .i64 C) ∧ Below w.heap.size w w' := by
  rw [← h]; exact model_any a b i j w ha hb

theorem data_inj {a b : ByteArray} (h : a.data.toList = b.data.toList) : a = b := by
  obtain ⟨⟨la⟩⟩ := a
  obtain ⟨⟨lb⟩⟩ := b
  simp at h
  rw [h]

set_option maxHeartbeats 4000000 in
theorem cmp_core (a b c : ByteArray) (i j k X Y Z : Int) (w : World) (ha : a.size ≤ 1048576) (hb : b.size ≤ 1048576) (hc : c.size ≤ 1048576) (hs : a.size + b.size + c.size ≤ 1048576)
    (h1 : cmpID a.data.toList i b.data.toList j = X) (h2 : cmpID b.data.toList j c.data.toList k = Y) (h3 : cmpID a.data.toList i c.data.toList k = Z)
    (hX : -1 ≤ X) (hX' : X ≤ 1) (hY : -1 ≤ Y) (hY' : Y ≤ 1) (hZ : -1 ≤ Z) (hZ' : Z ≤ 1)
    (heq : ((X == 0) = true ∧ (a.toList == b.toList) = true ∧ (i == j) = true) ∨ ((X == 0) = false ∧ (a.toList == b.toList) = true ∧ (i == j) = false) ∨ ((X == 0) = false ∧ (a.toList == b.toList) = false))
    (t1 : (X ≤ 0 ∧ Y ≤ 0 ∧ Z ≤ 0) ∨ (X ≤ 0 ∧ ¬ Y ≤ 0) ∨ ¬ X ≤ 0) (t2 : (0 ≤ X ∧ 0 ≤ Y ∧ 0 ≤ Z) ∨ (0 ≤ X ∧ ¬ 0 ≤ Y) ∨ ¬ 0 ≤ X) :
    Calls Try.prog 3 #[.string a, .int .i64 i, .string b, .int .i64 j, .string c, .int .i64 k] w fun e w' => e = .returned (.bool true) ∧ Below w.heap.size w w' := by
  have H : Hid (cmpID a.data.toList i b.data.toList j = X ∧ cmpID b.data.toList j c.data.toList k = Y ∧ cmpID a.data.toList i c.data.toList k = Z ∧ cmpID b.data.toList j a.data.toList i = -X ∧ cmpID a.data.toList i a.data.toList i = 0) := ⟨h1, h2, h3, by rw [id_anti, h1], id_refl _ _⟩
  have g1 : decide ((1048576 : Int) < (a.size : Int)) = false := by simp; omega
  have g2 : decide ((1048576 : Int) < (b.size : Int)) = false := by simp; omega
  have g3 : decide ((1048576 : Int) < (c.size : Int)) = false := by simp; omega
  clear h1 h2 h3
  go_enter Try.func3, Try.ntmps3
  go_wp2_with (first | (go_at_call 6; go_in))
  refine (zz_is a b i j X _ H.out.1).mono ?_
  rintro e w1 ⟨rfl, hb1⟩
  have B1 : Hid (Below w.heap.size w w1) := hb1
  clear hb1
  go_wp2_with fail
  refine (model_is a b i j X _ ha hb H.out.1).mono ?_
  rintro e w2 ⟨rfl, hb2⟩
  have B2 : Hid (Below w.heap.size w w2) := B1.out.trans (hb2.mono B1.out.size)
  clear hb2 B1
  go_wp2_with fail
  refine (zz_is b a j i (-X) _ H.out.2.2.2.1).mono ?_
  rintro e w3 ⟨rfl, hb3⟩
  have B3 : Hid (Below w.heap.size w w3) := B2.out.trans (hb3.mono B2.out.size)
  clear hb3 B2
  go_wp2_with fail
  refine (zz_is a a i i 0 _ H.out.2.2.2.2).mono ?_
  rintro e w4 ⟨rfl, hb4⟩
  have B4 : Hid (Below w.heap.size w w4) := B3.out.trans (hb4.mono B3.out.size)
  clear hb4 B3
  rcases heq with ⟨q1, q2, q3⟩ | ⟨q1, q2, q3⟩ | ⟨q1, q2⟩
  all_goals
    go_wp2_with fail
    refine (zz_is b c j k Y _ H.out.2.1).mono ?_
    rintro e w5 ⟨rfl, hb5⟩
    have B5 : Hid (Below w.heap.size w w5) := B4.out.trans (hb5.mono B4.out.size)
    clear hb5 B4
    go_wp2_with fail
    refine (zz_is a c i k Z _ H.out.2.2.1).mono ?_
    rintro e w6 ⟨rfl, hb6⟩
    have B6 : Hid (Below w.heap.size w w6) := B5.out.trans (hb6.mono B5.out.size)
    clear hb6 B5
    rcases t1 with ⟨u1, u2, u3⟩ | ⟨u1, u2⟩ | u1
    all_goals
      rcases t2 with ⟨v1, v2, v3⟩ | ⟨v1, v2⟩ | v1
      all_goals
        first
        | (exfalso; omega)
        | (go_wp2
           go_ret
           exact ⟨rfl, B6.out⟩)
end Go.Proofs.Qxb6002460a
