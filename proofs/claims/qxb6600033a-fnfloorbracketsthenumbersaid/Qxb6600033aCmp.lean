/-
  THE WALK of zzB1CmpFrac.
-/
import Derived.Test.Qxb6600033aStr
namespace Go.Proofs.Qxb6600033a
open Go.RowKit
set_option linter.unusedVariables false
set_option maxRecDepth 100000

/-- Zeros at the end, up to n. -/
def padR (xs : List Int) (n : Nat) : List Int := xs ++ zeros (n - xs.length)
theorem padR_length {xs : List Int} {n : Nat} (h : xs.length ≤ n) : (padR xs n).length = n := by rw [padR, List.length_append, zeros_length]; omega
theorem padR_dig {xs : List Int} (h : IsDig xs) (n : Nat) : IsDig (padR xs n) := dig_append h (zeros_dig _)
theorem dg_padR {xs : List Int} {n i : Nat} (hi : i < n) : dg (padR xs n) i = orZero xs i := by
  unfold orZero padR
  split
  · rename_i h; rw [dg_append_left h]
  · rename_i h
    rw [dg_append_right (by omega)]
    simp [dg, zeros, List.getD_eq_getElem?_getD, show i - xs.length < n - xs.length from by omega]

/-- Digit by digit. -/
theorem val_lt {xs ys : List Int} (hl : xs.length = ys.length) (hx : IsDig xs) (hy : IsDig ys) {k : Nat} (hk : k < xs.length) (he : ∀ j, j < k → dg xs j = dg ys j) (h : dg xs k < dg ys k) : val10 xs < val10 ys := by
  have ht : xs.take k = ys.take k := by
    apply List.ext_getElem (by simp; omega)
    intro i h1 h2
    simp at h1 h2
    have := he i (by omega)
    rw [dg_get (by omega), dg_get (by omega)] at this
    simpa using this
  have hk' : k < ys.length := by omega
  have ex : val10 xs = val10 (xs.take k) * 10 ^ (xs.length - k) + ((dg xs k - 48) * 10 ^ (xs.length - (k + 1)) + val10 (xs.drop (k + 1))) := by
    have := val_append (xs.take k) (xs.drop k)
    rw [List.take_append_drop, List.length_drop, drop_dg hk, val_cons, List.length_drop] at this
    exact this
  have ey : val10 ys = val10 (ys.take k) * 10 ^ (ys.length - k) + ((dg ys k - 48) * 10 ^ (ys.length - (k + 1)) + val10 (ys.drop (k + 1))) := by
    have := val_append (ys.take k) (ys.drop k)
    rw [List.take_append_drop, List.length_drop, drop_dg hk', val_cons, List.length_drop] at this
    exact this
  rw [ex, ey, ht, hl]
  have bx := val_bounds _ (dig_drop hx (k + 1))
  have by' := val_bounds _ (dig_drop hy (k + 1))
  rw [List.length_drop, hl] at bx
  have := pow_pos10 (ys.length - (k + 1))
  have hm : (dg xs k - 48 + 1) * 10 ^ (ys.length - (k + 1)) ≤ (dg ys k - 48) * 10 ^ (ys.length - (k + 1)) := Int.mul_le_mul_of_nonneg_right (by omega) (by omega)
  rw [Int.add_mul] at hm
  omega
theorem val_eq {xs ys : List Int} (hl : xs.length = ys.length) (he : ∀ j, j < xs.length → dg xs j = dg ys j) : val10 xs = val10 ys := by
  have : xs = ys := by
    apply List.ext_getElem hl
    intro i h1 h2
    have := he i h1
    rwa [dg_get h1, dg_get h2] at this
  rw [this]

/-- 0.xs against 0.ys, written out to n digits. -/
def cmpV (xs ys : List Int) (n : Nat) : Int := if val10 (padR xs n) < val10 (padR ys n) then -1 else if val10 (padR ys n) < val10 (padR xs n) then 1 else 0
theorem cmpV_lt {xs ys : List Int} {n k : Nat} (hx : IsDig xs) (hy : IsDig ys) (h1 : xs.length ≤ n) (h2 : ys.length ≤ n) (hk : k < n) (he : ∀ j, j < k → orZero xs j = orZero ys j) (h : orZero xs k < orZero ys k) : cmpV xs ys n = -1 := by
  unfold cmpV
  rw [if_pos]
  exact val_lt (by rw [padR_length h1, padR_length h2]) (padR_dig hx _) (padR_dig hy _) (k := k) (by rw [padR_length h1]; exact hk) (fun j hj => by rw [dg_padR (by omega), dg_padR (by omega)]; exact he j hj) (by rw [dg_padR hk, dg_padR hk]; exact h)
theorem cmpV_gt {xs ys : List Int} {n k : Nat} (hx : IsDig xs) (hy : IsDig ys) (h1 : xs.length ≤ n) (h2 : ys.length ≤ n) (hk : k < n) (he : ∀ j, j < k → orZero xs j = orZero ys j) (h : orZero ys k < orZero xs k) : cmpV xs ys n = 1 := by
  have := val_lt (xs := padR ys n) (ys := padR xs n) (by rw [padR_length h1, padR_length h2]) (padR_dig hy _) (padR_dig hx _) (k := k) (by rw [padR_length h2]; exact hk) (fun j hj => by rw [dg_padR (by omega), dg_padR (by omega)]; exact (he j hj).symm) (by rw [dg_padR hk, dg_padR hk]; exact h)
  unfold cmpV
  rw [if_neg (by omega), if_pos this]
theorem cmpV_eq {xs ys : List Int} {n : Nat} (h1 : xs.length ≤ n) (h2 : ys.length ≤ n) (he : ∀ j, j < n → orZero xs j = orZero ys j) : cmpV xs ys n = 0 := by
  have := val_eq (xs := padR xs n) (ys := padR ys n) (by rw [padR_length h1, padR_length h2]) (fun j hj => by rw [padR_length h1] at hj; rw [dg_padR hj, dg_padR hj]; exact he j hj)
  unfold cmpV
  rw [if_neg (by omega), if_neg (by omega)]

theorem ret_int {x y : Int} (h : x = y) : Ending.returned (.int .i64 x) = .returned (.int .i64 y) := by rw [h]
theorem orZero_dig {xs : List Int} (h : IsDig xs) (i : Nat) : 48 ≤ orZero xs i ∧ orZero xs i ≤ 57 := by
  unfold orZero
  split
  · rename_i hi; exact dg_dig h hi
  · omega

set_option maxHeartbeats 4000000 in
theorem cmp_le (a b : ByteArray) (w : World) (hd1 : IsDig (nums a)) (hd2 : IsDig (nums b)) (hle : b.size ≤ a.size) (hn : a.size ≤ 65536) :
    Calls Try.prog 22 #[.string a, .string b] w fun e w' => e = .returned (.int .i64 (cmpV (nums a) (nums b) a.size)) ∧ w' = w := by
  have HD : Hid (IsDig (nums a) ∧ IsDig (nums b)) := ⟨hd1, hd2⟩
  clear hd1 hd2
  have hle' : decide ((a.size : Int) < (b.size : Int)) = false := decide_eq_false (by omega)
  have hle2 : ¬ a.size < b.size := by omega
  go_enter Try.func22, Try.ntmps22
  go_wp2
  go_loop [6] (fun i => ∃ k : Nat, k ≤ a.size ∧ i = .int .i64 k ∧ Hid (∀ j, j < k → orZero (nums a) j = orZero (nums b) j)) (fun i => a.size - (intOf i).toNat)
  case atStart => exact ⟨0, Nat.zero_le _, rfl, fun j h => by omega⟩
  case round =>
    obtain ⟨k, hk, rfl, HE⟩ := hrel
    by_cases hkn : k < a.size
    · have hk' : (k : Int) < (a.size : Int) := by omega
      obtain ⟨x, HX, hxd⟩ : ∃ x, Hid (orZero (nums a) k = x) ∧ (48 ≤ x ∧ x ≤ 57) := ⟨_, rfl, orZero_dig HD.out.1 k⟩
      obtain ⟨y, HY, hyd⟩ : ∃ y, Hid (orZero (nums b) k = y) ∧ (48 ≤ y ∧ y ≤ 57) := ⟨_, rfl, orZero_dig HD.out.2 k⟩
      go_wp2_with fail
      refine (digit_or_zero a k w (by omega)).mono ?_
      rintro e w1 ⟨rfl, hw1⟩
      obtain rfl := hw1.symm
      clear hw1
      rw [HX.out]
      go_wp2_with fail
      refine (digit_or_zero b k w (by omega)).mono ?_
      rintro e w1 ⟨rfl, hw1⟩
      obtain rfl := hw1.symm
      clear hw1
      rw [HY.out]
      rcases Int.lt_trichotomy x y with h | h | h
      · have HF : Hid (cmpV (nums a) (nums b) a.size = -1) := cmpV_lt HD.out.1 HD.out.2 (by rw [nums_length]; omega) (by rw [nums_length]; omega) hkn HE.out (by rw [HX.out, HY.out]; exact h)
        go_wp2
        go_ret
        exact ⟨ret_int HF.out.symm, rfl⟩
      · have h1 : decide (x < y) = false := decide_eq_false (by omega)
        have h2 : decide (y < x) = false := decide_eq_false (by omega)
        have HE2 : Hid (∀ j, j < k + 1 → orZero (nums a) j = orZero (nums b) j) := fun j hj => by
          by_cases e : j = k
          · rw [e, HX.out, HY.out]; exact h
          · exact HE.out j (by omega)
        clear h
        go_wp2
        go_round
        case rel => exact ⟨k + 1, by omega, by go_num, HE2.out⟩
        case measure => simp [intOf]; omega
      · have h1 : decide (x < y) = false := decide_eq_false (by omega)
        have HF : Hid (cmpV (nums a) (nums b) a.size = 1) := cmpV_gt HD.out.1 HD.out.2 (by rw [nums_length]; omega) (by rw [nums_length]; omega) hkn HE.out (by rw [HX.out, HY.out]; exact h)
        go_wp2
        go_ret
        exact ⟨ret_int HF.out.symm, rfl⟩
    · obtain rfl : k = a.size := by omega
      have HF : Hid (cmpV (nums a) (nums b) a.size = 0) := cmpV_eq (by rw [nums_length]; omega) (by rw [nums_length]; omega) HE.out
      have hkk : decide ((a.size : Int) < (a.size : Int)) = false := decide_eq_false (by omega)
      go_wp2
      go_ret
      exact ⟨ret_int HF.out.symm, rfl⟩

set_option maxHeartbeats 4000000 in
theorem cmp_gt (a b : ByteArray) (w : World) (hd1 : IsDig (nums a)) (hd2 : IsDig (nums b)) (hle : a.size < b.size) (hn : b.size ≤ 65536) :
    Calls Try.prog 22 #[.string a, .string b] w fun e w' => e = .returned (.int .i64 (cmpV (nums a) (nums b) b.size)) ∧ w' = w := by
  have HD : Hid (IsDig (nums a) ∧ IsDig (nums b)) := ⟨hd1, hd2⟩
  clear hd1 hd2
  have hle' : (a.size : Int) < (b.size : Int) := by omega
  go_enter Try.func22, Try.ntmps22
  go_wp2
  go_loop [6] (fun i => ∃ k : Nat, k ≤ b.size ∧ i = .int .i64 k ∧ Hid (∀ j, j < k → orZero (nums a) j = orZero (nums b) j)) (fun i => b.size - (intOf i).toNat)
  case atStart => exact ⟨0, Nat.zero_le _, rfl, fun j h => by omega⟩
  case round =>
    obtain ⟨k, hk, rfl, HE⟩ := hrel
    by_cases hkn : k < b.size
    · have hk' : (k : Int) < (b.size : Int) := by omega
      obtain ⟨x, HX, hxd⟩ : ∃ x, Hid (orZero (nums a) k = x) ∧ (48 ≤ x ∧ x ≤ 57) := ⟨_, rfl, orZero_dig HD.out.1 k⟩
      obtain ⟨y, HY, hyd⟩ : ∃ y, Hid (orZero (nums b) k = y) ∧ (48 ≤ y ∧ y ≤ 57) := ⟨_, rfl, orZero_dig HD.out.2 k⟩
      go_wp2_with fail
      refine (digit_or_zero a k w (by omega)).mono ?_
      rintro e w1 ⟨rfl, hw1⟩
      obtain rfl := hw1.symm
      clear hw1
      rw [HX.out]
      go_wp2_with fail
      refine (digit_or_zero b k w (by omega)).mono ?_
      rintro e w1 ⟨rfl, hw1⟩
      obtain rfl := hw1.symm
      clear hw1
      rw [HY.out]
      rcases Int.lt_trichotomy x y with h | h | h
      · have HF : Hid (cmpV (nums a) (nums b) b.size = -1) := cmpV_lt HD.out.1 HD.out.2 (by rw [nums_length]; omega) (by rw [nums_length]; omega) hkn HE.out (by rw [HX.out, HY.out]; exact h)
        go_wp2
        go_ret
        exact ⟨ret_int HF.out.symm, rfl⟩
      · have h1 : decide (x < y) = false := decide_eq_false (by omega)
        have h2 : decide (y < x) = false := decide_eq_false (by omega)
        have HE2 : Hid (∀ j, j < k + 1 → orZero (nums a) j = orZero (nums b) j) := fun j hj => by
          by_cases e : j = k
          · rw [e, HX.out, HY.out]; exact h
          · exact HE.out j (by omega)
        clear h
        go_wp2
        go_round
        case rel => exact ⟨k + 1, by omega, by go_num, HE2.out⟩
        case measure => simp [intOf]; omega
      · have h1 : decide (x < y) = false := decide_eq_false (by omega)
        have HF : Hid (cmpV (nums a) (nums b) b.size = 1) := cmpV_gt HD.out.1 HD.out.2 (by rw [nums_length]; omega) (by rw [nums_length]; omega) hkn HE.out (by rw [HX.out, HY.out]; exact h)
        go_wp2
        go_ret
        exact ⟨ret_int HF.out.symm, rfl⟩
    · obtain rfl : k = b.size := by omega
      have HF : Hid (cmpV (nums a) (nums b) b.size = 0) := cmpV_eq (by rw [nums_length]; omega) (by rw [nums_length]; omega) HE.out
      have hkk : decide ((b.size : Int) < (b.size : Int)) = false := decide_eq_false (by omega)
      go_wp2
      go_ret
      exact ⟨ret_int HF.out.symm, rfl⟩

end Go.Proofs.Qxb6600033a
