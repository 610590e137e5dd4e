/-
  THE PLAIN LAW OF 'FnCheckIntegerAcceptsExactlyTheShortest': lists of numbers, no Go in sight.
-/
import Derived.Test.Qxb6002407aBase
namespace Go.Proofs.Qxb6002407a
set_option linter.unusedVariables false

def fillOf (c : Int) : Int := if 128 ≤ c then 255 else 0
def sameB (zs : List Int) (k m : Nat) : Bool := (List.range m).all fun j => zs.getD j 0 == fillOf (zs.getD k 0)
def wantB (zs : List Int) (k : Nat) : Bool := decide (0 < zs.length) && (List.range k).all fun i => i == 0 || !sameB zs i i

theorem sameB_zero (zs : List Int) (k : Nat) : sameB zs k 0 = true := rfl
theorem sameB_succ (zs : List Int) (k m : Nat) : sameB zs k (m + 1) = (sameB zs k m && (zs.getD m 0 == fillOf (zs.getD k 0))) := by
  simp [sameB, List.range_succ]
theorem wantB_one (zs : List Int) : wantB zs 1 = decide (0 < zs.length) := by simp [wantB]
theorem wantB_succ (zs : List Int) (k : Nat) (h : 1 ≤ k) : wantB zs (k + 1) = (wantB zs k && !sameB zs k k) := by
  have : (k == 0) = false := by simp; omega
  simp [wantB, List.range_succ, this, Bool.and_assoc]

theorem sameB_iff (zs : List Int) (k m : Nat) : sameB zs k m = true ↔ ∀ j, j < m → zs.getD j 0 = fillOf (zs.getD k 0) := by
  simp [sameB]
theorem wantB_iff (zs : List Int) (k : Nat) : wantB zs k = true ↔ 0 < zs.length ∧ ∀ i, 1 ≤ i → i < k → sameB zs i i = false := by
  simp only [wantB, Bool.and_eq_true, decide_eq_true_eq, List.all_eq_true, List.mem_range, Bool.or_eq_true, beq_iff_eq, Bool.not_eq_true']
  constructor
  · rintro ⟨h0, h⟩
    exact ⟨h0, fun i h1 h2 => (h i h2).resolve_left (by omega)⟩
  · rintro ⟨h0, h⟩
    refine ⟨h0, fun i hi => ?_⟩
    by_cases e : i = 0
    · exact .inl e
    · exact .inr (h i (by omega) hi)

/-- No tail at all is the same iff the one at place 1 is not. -/
theorem same_one (zs : List Int) (k : Nat) (hk : 1 ≤ k) (h : sameB zs k k = true) : sameB zs 1 1 = true := by
  rw [sameB_iff] at h ⊢
  by_cases e : k = 1
  · subst e; exact h
  · intro j hj
    obtain rfl : j = 0 := by omega
    have h0 := h 0 (by omega)
    have h1 := h 1 (by omega)
    rw [h0, h1]
    unfold fillOf
    split <;> simp

theorem ok_iff (a b : Int) (r : List Int) : okInt (a :: b :: r) = !sameB (a :: b :: r) 1 1 := by
  simp only [okInt, sameB, List.range_succ, List.range_zero, List.nil_append, List.all_cons, List.all_nil, Bool.and_true]
  congr 1
  show _ = (a == fillOf b)
  unfold fillOf
  by_cases h : 128 ≤ b
  · simp [h, show ¬ b < 128 from by omega]
  · simp [h, show b < 128 from by omega]

/-- What the law's loop answers is what 'checkInteger' answers. -/
theorem want_done (zs : List Int) (k : Nat) (hk : 1 ≤ k) (hk2 : k ≤ zs.length ∨ k = 1) (hd : zs.length ≤ k ∨ wantB zs k = false) : wantB zs k = okInt zs := by
  match zs, hk2, hd with
  | [], hk2, hd => simp [wantB, okInt]
  | [a], hk2, hd =>
    obtain rfl : k = 1 := by rcases hk2 with h | h; (simp at h; omega); exact h
    simp [wantB_one, okInt]
  | a :: b :: r, hk2, hd =>
    rw [ok_iff]
    rcases hd with hd | hd
    · cases hs : sameB (a :: b :: r) 1 1
      · rw [show (!false) = true from rfl, wantB_iff]
        refine ⟨by simp, fun i h1 h2 => ?_⟩
        cases h : sameB (a :: b :: r) i i
        · rfl
        · rw [same_one _ i h1 h] at hs; cases hs
      · cases hw : wantB (a :: b :: r) k
        · rfl
        · rw [wantB_iff] at hw
          rw [hw.2 1 (by omega) (by simp at hd; omega)] at hs; cases hs
    · rw [hd]
      cases hs : sameB (a :: b :: r) 1 1
      · have : wantB (a :: b :: r) k = true := by
          rw [wantB_iff]
          refine ⟨by simp, fun i h1 h2 => ?_⟩
          cases h : sameB (a :: b :: r) i i
          · rfl
          · rw [same_one _ i h1 h] at hs; cases hs
        rw [hd] at this; cases this
      · rfl
end Go.Proofs.Qxb6002407a
