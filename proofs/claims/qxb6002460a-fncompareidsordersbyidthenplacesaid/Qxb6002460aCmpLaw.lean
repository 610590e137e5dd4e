/-
  FnCompareIDsOrdersByIDThenPlace: the long ways, and all together.
-/
import Derived.Test.Qxb6002460aCmpMain
namespace Go.Proofs.Qxb6002460a
open Go.RowKit
set_option linter.unusedVariables false
set_option maxRecDepth 100000

theorem toList_eq {a b : ByteArray} (h : (a.toList == b.toList) = true) : a = b := by
  rw [ByteArray.toList_eq, ByteArray.toList_eq] at h
  exact data_inj (eq_of_beq h)

theorem cmp_long (a b c : ByteArray) (i j k : Int) (w : World) (ha : a.size ≤ maxLen) (hb : b.size ≤ maxLen) (hc : c.size ≤ maxLen) (hs : 1048576 < a.size + b.size + c.size) :
    Calls Try.prog 3 #[.string a, .int .i64 i, .string b, .int .i64 j, .string c, .int .i64 k] w fun e w' => e = .returned (.bool true) ∧ Below w.heap.size w w' := by
  unfold maxLen at ha hb hc
  by_cases h1 : 1048576 < a.size
  · go_enter Try.func3, Try.ntmps3
    go_wp2
    go_ret
    exact ⟨rfl, Below.refl _ _⟩
  · by_cases h2 : 1048576 < b.size
    · go_enter Try.func3, Try.ntmps3
      go_wp2
      go_ret
      exact ⟨rfl, Below.refl _ _⟩
    · by_cases h3 : 1048576 < a.size + b.size
      · go_enter Try.func3, Try.ntmps3
        go_wp2
        go_ret
        exact ⟨rfl, Below.refl _ _⟩
      · by_cases h4 : 1048576 < c.size
        · go_enter Try.func3, Try.ntmps3
          go_wp2
          go_ret
          exact ⟨rfl, Below.refl _ _⟩
        · go_enter Try.func3, Try.ntmps3
          go_wp2
          go_ret
          exact ⟨rfl, Below.refl _ _⟩

theorem cmp_law (a b c : ByteArray) (i j k : Int) (w : World) (ha : a.size ≤ maxLen) (hb : b.size ≤ maxLen) (hc : c.size ≤ maxLen) :
    Calls Try.prog 3 #[.string a, .int .i64 i, .string b, .int .i64 j, .string c, .int .i64 k] w fun e w' => e = .returned (.bool true) ∧ Below w.heap.size w w' := by
  by_cases hs : 1048576 < a.size + b.size + c.size
  · exact cmp_long a b c i j k w ha hb hc hs
  · have v1 := id_vals a.data.toList i b.data.toList j
    have v2 := id_vals b.data.toList j c.data.toList k
    have v3 := id_vals a.data.toList i c.data.toList k
    have t1 := id_trans a.data.toList i b.data.toList j c.data.toList k
    have t2 := id_trans' a.data.toList i b.data.toList j c.data.toList k
    have z := id_zero a.data.toList i b.data.toList j
    refine cmp_core a b c i j k _ _ _ w (by omega) (by omega) (by omega) (by omega) rfl rfl rfl (by omega) (by omega) (by omega) (by omega) (by omega) (by omega) ?_ (by omega) (by omega)
    cases e : (a.toList == b.toList)
    · right; right
      refine ⟨?_, rfl⟩
      rw [beq_eq_false_iff_ne]
      intro h
      have := data_inj (z.1 h).1
      subst this
      simp at e
    · have hab := toList_eq e
      subst hab
      by_cases hij : i = j
      · left
        exact ⟨by rw [beq_iff_eq]; exact z.2 ⟨rfl, hij⟩, rfl, by simpa using hij⟩
      · right; left
        refine ⟨?_, rfl, by simpa using hij⟩
        rw [beq_eq_false_iff_ne]
        intro h
        exact hij (z.1 h).2
end Go.Proofs.Qxb6002460a
