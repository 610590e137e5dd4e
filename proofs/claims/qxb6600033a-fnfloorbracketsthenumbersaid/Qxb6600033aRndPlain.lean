/-
  THE PLAIN LAW OF 'FnRoundIsHalfEvenToKeepDigits': lists of decimal digits (as signs '0' .. '9': 48 .. 57), no Go in sight.
-/
import Derived.Test.Qxb6600033aDec
namespace Go.Proofs.Qxb6600033a
set_option linter.unusedVariables false

def IsDig (l : List Int) : Prop := ∀ x ∈ l, 48 ≤ x ∧ x ≤ 57
def val10 (l : List Int) : Int := l.foldl (fun a x => a * 10 + (x - 48)) 0
def zeros (n : Nat) : List Int := List.replicate n 48

theorem val_acc (l : List Int) (a : Int) : l.foldl (fun a x => a * 10 + (x - 48)) a = a * 10 ^ l.length + val10 l := by
  induction l generalizing a with
  | nil => simp [val10]
  | cons x l ih =>
    simp only [List.foldl_cons, List.length_cons, val10]
    rw [ih, ih (0 * 10 + (x - 48)), Int.pow_succ]
    rw [Int.add_mul, Int.mul_assoc, Int.mul_comm (10 ^ l.length) 10, Int.zero_mul, Int.zero_add]
    omega
theorem val_nil : val10 [] = 0 := rfl
theorem val_cons (x : Int) (l : List Int) : val10 (x :: l) = (x - 48) * 10 ^ l.length + val10 l := by
  show l.foldl _ (0 * 10 + (x - 48)) = _
  rw [val_acc]; simp
theorem val_append (a b : List Int) : val10 (a ++ b) = val10 a * 10 ^ b.length + val10 b := by
  unfold val10; rw [List.foldl_append, val_acc]; rfl
theorem pow_pos10 (n : Nat) : (0 : Int) < 10 ^ n := Int.pow_pos (by omega)
theorem val_bounds (l : List Int) (h : IsDig l) : 0 ≤ val10 l ∧ val10 l < 10 ^ l.length := by
  induction l with
  | nil => simp [val10]
  | cons x l ih =>
    have hx := h x (by simp)
    have ih := ih (fun y hy => h y (by simp [hy]))
    rw [val_cons, List.length_cons, Int.pow_succ]
    have hp := pow_pos10 l.length
    have h1 : 0 ≤ (x - 48) * 10 ^ l.length := Int.mul_nonneg (by omega) (by omega)
    have h2 : (x - 48) * 10 ^ l.length ≤ 9 * 10 ^ l.length := Int.mul_le_mul_of_nonneg_right (by omega) (by omega)
    omega
theorem val_zeros (n : Nat) : val10 (zeros n) = 0 := by
  induction n with
  | zero => rfl
  | succ n ih => rw [zeros, List.replicate_succ, val_cons]; rw [show List.replicate n 48 = zeros n from rfl, ih]; simp
theorem zeros_length (n : Nat) : (zeros n).length = n := List.length_replicate
theorem zeros_dig (n : Nat) : IsDig (zeros n) := fun x hx => by rw [List.eq_of_mem_replicate hx]; omega
theorem dig_append {a b : List Int} (ha : IsDig a) (hb : IsDig b) : IsDig (a ++ b) := fun x hx => by
  rcases List.mem_append.1 hx with h | h
  · exact ha x h
  · exact hb x h
theorem dig_take {l : List Int} (h : IsDig l) (n : Nat) : IsDig (l.take n) := fun x hx => h x (List.mem_of_mem_take hx)
theorem dig_drop {l : List Int} (h : IsDig l) (n : Nat) : IsDig (l.drop n) := fun x hx => h x (List.mem_of_mem_drop hx)
theorem dg_get {l : List Int} {i : Nat} (h : i < l.length) : dg l i = l[i] := by simp [dg, List.getD_eq_getElem?_getD, h]
theorem dg_dig {l : List Int} (hd : IsDig l) {i : Nat} (h : i < l.length) : 48 ≤ dg l i ∧ dg l i ≤ 57 := by rw [dg_get h]; exact hd _ (List.getElem_mem h)
theorem drop_dg {l : List Int} {i : Nat} (h : i < l.length) : l.drop i = dg l i :: l.drop (i + 1) := by rw [List.drop_eq_getElem_cons h, dg_get h]
theorem take_dg {l : List Int} {i : Nat} (h : i < l.length) : l.take (i + 1) = l.take i ++ [dg l i] := by rw [List.take_succ_eq_append_getElem h, dg_get h]

/-- A value of 0: all signs are '0'. -/
theorem val_zero_all : ∀ (l : List Int), IsDig l → val10 l = 0 → ∀ i, i < l.length → dg l i = 48
  | [], _, _, i, hi => by simp at hi
  | x :: l, hd, h, i, hi => by
    have hb := val_bounds l (fun y hy => hd y (by simp [hy]))
    have hx := hd x (by simp)
    have hp := pow_pos10 l.length
    rw [val_cons] at h
    have hx0 : x = 48 := by
      rcases Int.lt_or_le 48 x with h' | h'
      · have := Int.mul_pos (show 0 < x - 48 by omega) hp; omega
      · omega
    subst hx0
    simp at h
    cases i with
    | zero => rfl
    | succ i => exact val_zero_all l (fun y hy => hd y (by simp [hy])) h i (by simpa using hi)
/-- A value of 1: all but the last are '0', the last is '1'. -/
theorem val_one_all : ∀ (l : List Int), IsDig l → val10 l = 1 → ∀ i, i < l.length → dg l i = if i + 1 = l.length then 49 else 48
  | [], _, _, i, hi => by simp at hi
  | x :: l, hd, h, i, hi => by
    have hdl : IsDig l := fun y hy => hd y (by simp [hy])
    have hb := val_bounds l hdl
    have hx := hd x (by simp)
    have hp := pow_pos10 l.length
    rw [val_cons] at h
    cases hl : l with
    | nil =>
      subst hl
      simp [val10] at h
      simp at hi
      subst hi
      simp [dg]; omega
    | cons y r =>
      have hx0 : x = 48 := by
        rcases Int.lt_or_le 48 x with h' | h'
        · have h10 : (10 : Int) ≤ 10 ^ l.length := by
            rw [hl, List.length_cons, Int.pow_succ]
            have := pow_pos10 r.length; omega
          have := Int.mul_le_mul_of_nonneg_right (show (1 : Int) ≤ x - 48 by omega) (show 0 ≤ (10 : Int) ^ l.length by omega)
          omega
        · omega
      subst hx0
      simp at h
      cases i with
      | zero => simp [dg]
      | succ i =>
        have := val_one_all l hdl h i (by simpa using hi)
        rw [hl] at this
        show dg (y :: r) i = _
        rw [this]
        simp

/-- How many are left when the '0's at the end are cut off. -/
def trimN (ds : List Int) : Nat → Nat
  | 0 => 0
  | k + 1 => if dg ds k = 48 then trimN ds k else k + 1
theorem trimN_le (ds : List Int) : ∀ k, trimN ds k ≤ k
  | 0 => Nat.le_refl _
  | k + 1 => by unfold trimN; split; (have := trimN_le ds k; omega); exact Nat.le_refl _

theorem trim_zero (ds : List Int) : ∀ k j, trimN ds k ≤ j → j < k → dg ds j = 48
  | 0, j, _, h => by omega
  | k + 1, j, h1, h2 => by
    unfold trimN at h1
    split at h1
    · by_cases e : j = k
      · subst e; assumption
      · exact trim_zero ds k j h1 (by omega)
    · omega
theorem trim_last (ds : List Int) : ∀ k, 0 < trimN ds k → dg ds (trimN ds k - 1) ≠ 48
  | 0, h => by simp [trimN] at h
  | k + 1, h => by
    unfold trimN at h ⊢
    split
    · rename_i e
      rw [if_pos e] at h
      exact trim_last ds k h
    · simpa using ‹¬ dg ds k = 48›

/-- The value of the first k digits where those from m on are '0'. -/
theorem val_take_zeros (ds : List Int) (m : Nat) : ∀ k, m ≤ k → k ≤ ds.length → (∀ j, m ≤ j → j < k → dg ds j = 48) → val10 (ds.take k) = val10 (ds.take m) * 10 ^ (k - m)
  | 0, h, _, _ => by rw [show m = 0 from by omega]; simp
  | k + 1, h, hl, hz => by
    by_cases e : m = k + 1
    · subst e; simp
    · rw [take_dg (by omega), val_append, val_take_zeros ds m k (by omega) (by omega) (fun j h1 h2 => hz j h1 (by omega)), hz k (by omega) (by omega), show k + 1 - m = (k - m) + 1 from by omega, Int.pow_succ]
      simp [val10, Int.mul_assoc]
/-- .. and where they are '9'. -/
theorem val_take_nines (ds : List Int) (m : Nat) : ∀ k, m ≤ k → k ≤ ds.length → (∀ j, m ≤ j → j < k → dg ds j = 57) → val10 (ds.take k) + 1 = (val10 (ds.take m) + 1) * 10 ^ (k - m)
  | 0, h, _, _ => by rw [show m = 0 from by omega]; simp
  | k + 1, h, hl, hz => by
    by_cases e : m = k + 1
    · subst e; simp
    · have ih := val_take_nines ds m k (by omega) (by omega) (fun j h1 h2 => hz j h1 (by omega))
      rw [take_dg (by omega), val_append, hz k (by omega) (by omega), show k + 1 - m = (k - m) + 1 from by omega, Int.pow_succ, ← Int.mul_assoc, ← ih]
      simp [val10]
      omega

/-- The digits of a valid decimal. -/
def Valid (ds : List Int) : Prop := IsDig ds ∧ (0 < ds.length → dg ds 0 ≠ 48 ∧ dg ds (ds.length - 1) ≠ 48)

def isOdd (ds : List Int) (k : Nat) : Bool := decide (0 < k) && ((dg ds (k - 1) - 48) % 2 == 1)
def isHalf (ds : List Int) (k : Nat) : Bool := (dg ds k == 53) && (k + 1 == ds.length)
/-- Does 'round' go up? -/
def goesUp (ds : List Int) (k : Nat) : Bool := !(decide (dg ds k < 53) || (isHalf ds k && !isOdd ds k))

/-- What 'round' makes of the digits. -/
def Rounded (ds : List Int) (k : Nat) (rs : List Int) (grow : Nat) : Prop :=
  (goesUp ds k = false ∧ rs = ds.take (trimN ds k) ∧ grow = 0) ∨
  (goesUp ds k = true ∧ grow = 0 ∧ ∃ i, i < k ∧ dg ds i ≠ 57 ∧ (∀ j, i < j → j < k → dg ds j = 57) ∧ rs = ds.take i ++ [dg ds i + 1]) ∨
  (goesUp ds k = true ∧ (∀ j, j < k → dg ds j = 57) ∧ rs = [49] ∧ grow = 1)

theorem dg_take {l : List Int} {n i : Nat} (h : i < n) : dg (l.take n) i = dg l i := by simp [dg, List.getD_eq_getElem?_getD, h]
theorem dg_append_left {a b : List Int} {i : Nat} (h : i < a.length) : dg (a ++ b) i = dg a i := by simp [dg, List.getD_eq_getElem?_getD, List.getElem?_append_left h]
theorem dg_append_right {a b : List Int} {i : Nat} (h : a.length ≤ i) : dg (a ++ b) i = dg b (i - a.length) := by simp [dg, List.getD_eq_getElem?_getD, List.getElem?_append_right h]

theorem rounded_valid {ds : List Int} {k grow : Nat} {rs : List Int} (hv : Valid ds) (hk : k < ds.length) (h : Rounded ds k rs grow) : Valid rs ∧ rs.length ≤ k + grow := by
  obtain ⟨hd, he⟩ := hv
  have he := he (by omega)
  rcases h with ⟨_, rfl, rfl⟩ | ⟨_, rfl, i, hi, h9, _, rfl⟩ | ⟨_, _, rfl, rfl⟩
  · have hl := trimN_le ds k
    have hlen : (ds.take (trimN ds k)).length = trimN ds k := by rw [List.length_take]; omega
    refine ⟨⟨dig_take hd _, fun h0 => ?_⟩, by omega⟩
    rw [hlen] at h0 ⊢
    rw [dg_take h0, dg_take (by omega)]
    exact ⟨he.1, trim_last ds k h0⟩
  · have hlen : (ds.take i).length = i := by rw [List.length_take]; omega
    have hdi := dg_dig hd (show i < ds.length by omega)
    refine ⟨⟨dig_append (dig_take hd _) (fun x hx => by simp at hx; omega), fun h0 => ?_⟩, by simp; omega⟩
    have hlast : dg (ds.take i ++ [dg ds i + 1]) i = dg ds i + 1 := by rw [dg_append_right (by omega), hlen, Nat.sub_self]; rfl
    rw [List.length_append, hlen, List.length_singleton, show i + 1 - 1 = i from rfl]
    refine ⟨?_, by rw [hlast]; omega⟩
    by_cases e : i = 0
    · subst e; simp [dg] at *; omega
    · rw [dg_append_left (by omega), dg_take (by omega)]; exact he.1
  · exact ⟨⟨fun x hx => by simp at hx; omega, fun _ => by simp [dg]⟩, by simp⟩

/-- q - t is 1 exactly where it goes up. -/
theorem rounded_diff {ds : List Int} {k grow : Nat} {rs : List Int} (hv : Valid ds) (hk : k < ds.length) (h : Rounded ds k rs grow) :
    val10 (rs ++ zeros (k + grow - rs.length)) - val10 (ds.take k) = if goesUp ds k = true then 1 else 0 := by
  rw [val_append, val_zeros, zeros_length, Int.add_zero]
  rcases h with ⟨hu, rfl, rfl⟩ | ⟨hu, rfl, i, hi, h9, hz, rfl⟩ | ⟨hu, hz, rfl, rfl⟩
  · have hl := trimN_le ds k
    have hlen : (ds.take (trimN ds k)).length = trimN ds k := by rw [List.length_take]; omega
    rw [hlen, Nat.add_zero, val_take_zeros ds (trimN ds k) k hl (by omega) (trim_zero ds k), hu]
    simp
  · have hlen : (ds.take i ++ [dg ds i + 1]).length = i + 1 := by simp; omega
    have h := val_take_nines ds (i + 1) k (by omega) (by omega) (fun j h1 h2 => hz j (by omega) h2)
    rw [hlen, Nat.add_zero, hu]
    rw [take_dg (by omega), val_append] at h
    rw [val_append]
    simp [val10] at h ⊢
    have e : List.foldl (fun a x => a * 10 + (x - 48)) 0 (List.take i ds) * 10 + (dg ds i + 1 - 48) = List.foldl (fun a x => a * 10 + (x - 48)) 0 (List.take i ds) * 10 + (dg ds i - 48) + 1 := by omega
    rw [e, ← h]; omega
  · have h := val_take_nines ds 0 k (by omega) (by omega) (fun j _ h2 => hz j h2)
    rw [hu]
    simp [val10] at h ⊢
    omega

/-- What the law wants: c compares the cut-off rest with one half. -/
theorem want_is {ds : List Int} {k : Nat} (hv : Valid ds) (hk : k < ds.length) (c : Int)
    (hc : c = if val10 (ds.drop k) < val10 (53 :: zeros (ds.length - k - 1)) then -1 else if val10 (53 :: zeros (ds.length - k - 1)) < val10 (ds.drop k) then 1 else 0) :
    (decide (0 < c) || ((c == 0) && isOdd ds k)) = goesUp ds k := by
  obtain ⟨hd, he⟩ := hv
  have he := he (by omega)
  rw [val_cons, val_zeros, zeros_length, drop_dg hk, val_cons, List.length_drop, show ds.length - (k + 1) = ds.length - k - 1 from by omega] at hc
  generalize hL : ds.length - k - 1 = L at *
  have hb := val_bounds (ds.drop (k + 1)) (dig_drop hd _)
  have hlen : (ds.drop (k + 1)).length = L := by rw [List.length_drop]; omega
  rw [hlen] at hb
  have hp := pow_pos10 L
  have hdk := dg_dig hd hk
  unfold goesUp isHalf
  by_cases h1 : dg ds k < 53
  · have : (dg ds k - 48 + 1) * 10 ^ L ≤ (53 - 48) * 10 ^ L := Int.mul_le_mul_of_nonneg_right (by omega) (by omega)
    rw [Int.add_mul] at this
    rw [if_pos (by omega)] at hc
    subst hc
    simp [h1]
  · by_cases h2 : dg ds k = 53
    · rw [h2] at hc ⊢
      by_cases h3 : L = 0
      · subst h3
        have : ds.drop (k + 1) = [] := List.eq_nil_of_length_eq_zero hlen
        rw [this, val_nil] at hc
        simp at hc
        subst hc
        have hk1 : (k + 1 == ds.length) = true := by simp; omega
        simp [hk1]
      · have hpos : 0 < val10 (ds.drop (k + 1)) := by
          rcases Int.lt_or_le 0 (val10 (ds.drop (k + 1))) with h | h
          · exact h
          · have hz := val_zero_all (ds.drop (k + 1)) (dig_drop hd _) (by omega) (L - 1) (by omega)
            have : dg (ds.drop (k + 1)) (L - 1) = dg ds (ds.length - 1) := by
              simp only [dg, List.getD_eq_getElem?_getD, List.getElem?_drop]
              rw [show k + 1 + (L - 1) = ds.length - 1 from by omega]
            rw [this] at hz
            exact absurd hz he.2
        rw [if_neg (by omega), if_pos (by omega)] at hc
        subst hc
        have hk1 : (k + 1 == ds.length) = false := by simp; omega
        simp [hk1]
    · have : (53 - 48 + 1) * 10 ^ L ≤ (dg ds k - 48) * 10 ^ L := Int.mul_le_mul_of_nonneg_right (by omega) (by omega)
      rw [Int.add_mul] at this
      rw [if_neg (by omega), if_pos (by omega)] at hc
      subst hc
      have hne : (dg ds k == 53) = false := by simpa using h2
      simp [h1, hne]
end Go.Proofs.Qxb6600033a
