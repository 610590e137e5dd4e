/-
  THE PLAIN LAW OF 'FnCompareIDsOrdersByIDThenPlace': the order of two texts, then of two places.
-/
import Derived.Lib.Bytealg
namespace Go.Proofs.Qxb6002460a
set_option linter.unusedVariables false
open Go.Lib (compareBytes)

theorem cmp_vals : ∀ a b : List UInt8, compareBytes a b = -1 ∨ compareBytes a b = 0 ∨ compareBytes a b = 1
  | [], [] => by simp [compareBytes]
  | [], _ :: _ => by simp [compareBytes]
  | _ :: _, [] => by simp [compareBytes]
  | x :: a, y :: b => by
    unfold compareBytes
    split
    · simp
    · split
      · simp
      · exact cmp_vals a b

theorem cmp_refl : ∀ a : List UInt8, compareBytes a a = 0
  | [] => by simp [compareBytes]
  | x :: a => by simp [compareBytes, cmp_refl a]

theorem cmp_anti : ∀ a b : List UInt8, compareBytes b a = -compareBytes a b
  | [], [] => by simp [compareBytes]
  | [], _ :: _ => by simp [compareBytes]
  | _ :: _, [] => by simp [compareBytes]
  | x :: a, y :: b => by
    have ih := cmp_anti a b
    unfold compareBytes
    by_cases h1 : x < y
    · have h2 : ¬ y < x := by rw [UInt8.lt_iff_toNat_lt] at *; omega
      simp [h1, h2]
    · by_cases h2 : y < x
      · simp [h1, h2]
      · simp [h1, h2, ih]

theorem cmp_zero : ∀ a b : List UInt8, compareBytes a b = 0 → a = b
  | [], [], _ => rfl
  | [], _ :: _, h => by simp [compareBytes] at h
  | _ :: _, [], h => by simp [compareBytes] at h
  | x :: a, y :: b, h => by
    unfold compareBytes at h
    by_cases h1 : x < y
    · simp [h1] at h
    · by_cases h2 : y < x
      · simp [h1, h2] at h
      · simp only [h1, h2, if_false] at h
        have e : x = y := by
          apply UInt8.toNat_inj.1
          rw [UInt8.lt_iff_toNat_lt] at h1 h2; omega
        rw [e, cmp_zero a b h]

theorem cmp_trans : ∀ a b c : List UInt8, compareBytes a b ≤ 0 → compareBytes b c ≤ 0 → compareBytes a c ≤ 0 ∧ (compareBytes a c = 0 → compareBytes a b = 0 ∧ compareBytes b c = 0)
  | [], [], c, _, h2 => ⟨h2, fun h => ⟨by simp [compareBytes], h⟩⟩
  | [], y :: b, [], _, h2 => by simp [compareBytes] at h2
  | [], y :: b, z :: c, _, _ => by simp [compareBytes]
  | x :: a, [], c, h1, _ => by simp [compareBytes] at h1
  | x :: a, y :: b, [], _, h2 => by simp [compareBytes] at h2
  | x :: a, y :: b, z :: c, h1, h2 => by
    unfold compareBytes at h1 h2 ⊢
    by_cases hxy : x < y
    · by_cases hyz : y < z
      · have hxz : x < z := by rw [UInt8.lt_iff_toNat_lt] at *; omega
        simp [hxz]
      · by_cases hzy : z < y
        · simp [hyz, hzy] at h2
        · have e : y = z := by apply UInt8.toNat_inj.1; rw [UInt8.lt_iff_toNat_lt] at hyz hzy; omega
          subst e; simp [hxy]
    · by_cases hyx : y < x
      · simp [hxy, hyx] at h1
      · have e : x = y := by apply UInt8.toNat_inj.1; rw [UInt8.lt_iff_toNat_lt] at hxy hyx; omega
        subst e
        simp only [hxy, if_false] at h1
        by_cases hxz : x < z
        · simp [hxz]
        · by_cases hzx : z < x
          · simp [hxz, hzx] at h2
          · simp only [hxz, hzx, if_false] at h2 ⊢
            simp only [hxy, if_false]
            exact cmp_trans a b c h1 h2

/-- What compareIDs answers. -/
def cmpID (a : List UInt8) (i : Int) (b : List UInt8) (j : Int) : Int :=
  if compareBytes a b ≠ 0 then compareBytes a b else if i < j then -1 else if j < i then 1 else 0

theorem id_vals (a : List UInt8) (i : Int) (b : List UInt8) (j : Int) : cmpID a i b j = -1 ∨ cmpID a i b j = 0 ∨ cmpID a i b j = 1 := by
  have := cmp_vals a b
  unfold cmpID; split
  · exact this
  · split
    · simp
    · split <;> simp
theorem id_anti (a : List UInt8) (i : Int) (b : List UInt8) (j : Int) : cmpID b j a i = -cmpID a i b j := by
  unfold cmpID
  rw [cmp_anti a b]
  by_cases h : compareBytes a b = 0
  · simp only [h]
    by_cases h1 : i < j
    · simp [h1, show ¬ j < i from by omega]
    · by_cases h2 : j < i
      · simp [h1, h2]
      · simp [h1, h2]
  · rw [if_pos (by omega), if_pos h]
theorem id_refl (a : List UInt8) (i : Int) : cmpID a i a i = 0 := by simp [cmpID, cmp_refl]
theorem id_zero (a : List UInt8) (i : Int) (b : List UInt8) (j : Int) : cmpID a i b j = 0 ↔ a = b ∧ i = j := by
  constructor
  · intro h
    unfold cmpID at h
    by_cases h0 : compareBytes a b = 0
    · simp only [h0] at h
      refine ⟨cmp_zero a b h0, ?_⟩
      by_cases h1 : i < j
      · simp [h1] at h
      · by_cases h2 : j < i
        · simp [h1, h2] at h
        · omega
    · rw [if_pos h0] at h; exact absurd h h0
  · rintro ⟨rfl, rfl⟩; exact id_refl a i
theorem id_trans (a : List UInt8) (i : Int) (b : List UInt8) (j : Int) (c : List UInt8) (k : Int) (h1 : cmpID a i b j ≤ 0) (h2 : cmpID b j c k ≤ 0) : cmpID a i c k ≤ 0 := by
  have ha := cmp_vals a b
  have hb := cmp_vals b c
  have g1 : compareBytes a b ≤ 0 := by
    unfold cmpID at h1; split at h1
    · exact h1
    · rename_i h; simp at h; omega
  have g2 : compareBytes b c ≤ 0 := by
    unfold cmpID at h2; split at h2
    · exact h2
    · rename_i h; simp at h; omega
  have ht := cmp_trans a b c g1 g2
  unfold cmpID
  split
  · exact ht.1
  · rename_i h
    have h0 := ht.2 (by simpa using h)
    unfold cmpID at h1 h2
    rw [if_neg (by simp [h0.1])] at h1
    rw [if_neg (by simp [h0.2])] at h2
    by_cases e1 : j < i
    · simp [e1, show ¬ i < j from by omega] at h1
    · by_cases e2 : k < j
      · simp [e2, show ¬ j < k from by omega] at h2
      · by_cases e3 : k < i
        · omega
        · split
          · omega
          · simp
theorem id_trans' (a : List UInt8) (i : Int) (b : List UInt8) (j : Int) (c : List UInt8) (k : Int) (h1 : 0 ≤ cmpID a i b j) (h2 : 0 ≤ cmpID b j c k) : 0 ≤ cmpID a i c k := by
  have := id_trans c k b j a i (by rw [id_anti]; omega) (by rw [id_anti]; omega)
  rw [id_anti] at this; omega
end Go.Proofs.Qxb6002460a
