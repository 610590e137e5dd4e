/-
  THE PLAIN LAW OF 'FnFloorBracketsTheNumber': no Go in sight.
-/
import Derived.Test.Qxb6600033aCmp
namespace Go.Proofs.Qxb6600033a
set_option linter.unusedVariables false

/-- The digit at place j; 0 ahead of the first and behind the last. -/
def digI (ds : List Int) (j : Int) : Int := if 0 ≤ j ∧ j < (ds.length : Int) then dg ds j.toNat - 48 else 0
theorem digI_in {ds : List Int} {k : Nat} (h : k < ds.length) : digI ds k = dg ds k - 48 := by
  unfold digI; rw [if_pos (by omega), Int.toNat_natCast]
theorem digI_out {ds : List Int} {j : Int} (h : j < 0 ∨ (ds.length : Int) ≤ j) : digI ds j = 0 := by
  unfold digI; rw [if_neg (by omega)]
theorem digI_range {ds : List Int} (hd : IsDig ds) (j : Int) : 0 ≤ digI ds j ∧ digI ds j ≤ 9 := by
  unfold digI
  split
  · rename_i h
    have := dg_dig hd (i := j.toNat) (by omega)
    omega
  · omega
/-- The number that the first j digits spell. -/
def pre (ds : List Int) : Nat → Int
  | 0 => 0
  | j + 1 => pre ds j * 10 + digI ds j
/-- The number that the i digits from place pt on spell. -/
def fr (ds : List Int) (pt : Int) : Nat → Int
  | 0 => 0
  | i + 1 => fr ds pt i * 10 + digI ds (pt + i)
theorem pre_range {ds : List Int} (hd : IsDig ds) : ∀ j, 0 ≤ pre ds j ∧ pre ds j < 10 ^ j
  | 0 => by simp [pre]
  | j + 1 => by
    have h1 := pre_range hd j
    have h2 := digI_range hd (j : Int)
    rw [pre, Int.pow_succ]; omega
theorem fr_range {ds : List Int} (hd : IsDig ds) (pt : Int) : ∀ j, 0 ≤ fr ds pt j ∧ fr ds pt j < 10 ^ j
  | 0 => by simp [fr]
  | j + 1 => by
    have h1 := fr_range hd pt j
    have h2 := digI_range hd (pt + (j : Int))
    rw [fr, Int.pow_succ]; omega
theorem pre_take {ds : List Int} : ∀ j, j ≤ ds.length → pre ds j = val10 (ds.take j)
  | 0, _ => rfl
  | j + 1, h => by
    rw [pre, pre_take j (by omega), digI_in (by omega), take_dg (by omega), val_append]
    simp [val10]
theorem pre_past {ds : List Int} : ∀ j, pre ds (ds.length + j) = val10 ds * 10 ^ j
  | 0 => by rw [Nat.add_zero, pre_take _ (Nat.le_refl _), List.take_length]; simp
  | j + 1 => by
    rw [← Nat.add_assoc, pre, pre_past j, digI_out (.inr (by omega)), Int.pow_succ, ← Int.mul_assoc]; omega
theorem pre_fr {ds : List Int} (pt : Int) : ∀ i : Nat, pre ds (pt + i).toNat = pre ds pt.toNat * 10 ^ i + fr ds pt i
  | 0 => by simp [fr]
  | i + 1 => by
    have ih := pre_fr (ds := ds) pt i
    rcases Int.lt_or_le (pt + i) 0 with h | h
    · have e1 : (pt + (i + 1 : Nat)).toNat = 0 := by omega
      have e2 : pt.toNat = 0 := by omega
      have e3 : (pt + (i : Nat)).toNat = 0 := by omega
      rw [e2, e3] at ih
      simp [pre] at ih
      rw [e1, e2, fr, digI_out (.inl h), ← ih]
      simp [pre]
    · have e1 : (pt + (i + 1 : Nat)).toNat = (pt + (i : Nat)).toNat + 1 := by omega
      have e2 : (((pt + (i : Nat)).toNat : Nat) : Int) = pt + (i : Nat) := by omega
      rw [e1, pre, ih, e2, fr, Int.pow_succ, Int.add_mul, Int.mul_assoc]; omega

/-- 0.ds * 10^p, in units of 10^-K. -/
def mag (ds : List Int) (p : Int) (K : Nat) : Int := val10 ds * 10 ^ ((K : Int) + p - ds.length).toNat
theorem mag_nonneg {ds : List Int} (hd : IsDig ds) (p : Int) (K : Nat) : 0 ≤ mag ds p K :=
  Int.mul_nonneg (val_bounds ds hd).1 (by have := pow_pos10 ((K : Int) + p - ds.length).toNat; omega)
/-- No sign but digits; no '0' ahead. -/
def Norm (ds : List Int) : Prop := IsDig ds ∧ (0 < ds.length → dg ds 0 ≠ 48)
theorem Valid.norm {ds : List Int} (h : Valid ds) : Norm ds := ⟨h.1, fun h0 => (h.2 h0).1⟩
theorem norm_low {ds : List Int} (h : Norm ds) (h0 : 0 < ds.length) : 10 ^ (ds.length - 1) ≤ val10 ds := by
  match ds, h, h0 with
  | x :: l, h, h0 =>
    have hx := h.1 x (by simp)
    have hx2 := h.2 h0
    have hx3 : x ≠ 48 := by simpa [dg] using hx2
    have hb := val_bounds l (fun y hy => h.1 y (by simp [hy]))
    have hp := pow_pos10 l.length
    rw [val_cons]
    have := Int.mul_le_mul_of_nonneg_right (show (1 : Int) ≤ x - 48 by omega) (show 0 ≤ (10 : Int) ^ l.length by omega)
    rw [Int.one_mul] at this
    simp only [List.length_cons, Nat.add_sub_cancel]
    omega
theorem pow_add10 (a b : Nat) : (10 : Int) ^ (a + b) = 10 ^ a * 10 ^ b := Int.pow_add 10 a b
theorem pow_mono10 {a b : Nat} (h : a ≤ b) : (10 : Int) ^ a ≤ 10 ^ b := by
  obtain ⟨c, rfl⟩ : ∃ c, b = a + c := ⟨b - a, by omega⟩
  rw [pow_add10]
  have h1 := pow_pos10 a
  have h2 := pow_pos10 c
  have := Int.mul_le_mul_of_nonneg_left (show (1 : Int) ≤ 10 ^ c by omega) (show 0 ≤ (10 : Int) ^ a by omega)
  omega
theorem mag_bounds {ds : List Int} (h : Norm ds) (h0 : 0 < ds.length) {p : Int} {K : Nat} (hK : (ds.length : Int) ≤ K + p) : 10 ^ ((K : Int) + p - 1).toNat ≤ mag ds p K ∧ mag ds p K < 10 ^ ((K : Int) + p).toNat := by
  have h1 := norm_low h h0
  have h2 := (val_bounds ds h.1).2
  have hp := pow_pos10 ((K : Int) + p - ds.length).toNat
  unfold mag
  refine ⟨?_, ?_⟩
  · rw [show ((K : Int) + p - 1).toNat = (ds.length - 1) + ((K : Int) + p - ds.length).toNat from by omega, pow_add10]
    exact Int.mul_le_mul_of_nonneg_right h1 (by omega)
  · rw [show ((K : Int) + p).toNat = ds.length + ((K : Int) + p - ds.length).toNat from by omega, pow_add10]
    exact Int.mul_lt_mul_of_pos_right h2 hp
theorem mag_empty {ds : List Int} (h0 : ds.length = 0) (p : Int) (K : Nat) : mag ds p K = 0 := by
  rw [List.eq_nil_of_length_eq_zero h0]; simp [mag, val10]
theorem mag_pos {ds : List Int} (h : Norm ds) (h0 : 0 < ds.length) (p : Int) (K : Nat) : 0 < mag ds p K :=
  Int.mul_pos (by have := norm_low h h0; have := pow_pos10 (ds.length - 1); omega) (pow_pos10 _)
theorem val_padR (ds : List Int) (n : Nat) : val10 (padR ds n) = val10 ds * 10 ^ (n - ds.length) := by
  unfold padR; rw [val_append, val_zeros, zeros_length]; omega
theorem mag_padR {ds : List Int} {n : Nat} (hn : ds.length ≤ n) {p : Int} {K : Nat} (hK : (n : Int) ≤ K + p) : mag ds p K = val10 (padR ds n) * 10 ^ ((K : Int) + p - n).toNat := by
  unfold mag
  rw [val_padR, Int.mul_assoc, ← pow_add10]
  congr 2
  omega

def cmpMag (xs : List Int) (ap : Int) (ys : List Int) (bp : Int) : Int :=
  if xs.length = 0 ∧ ys.length = 0 then 0 else if xs.length = 0 then -1 else if ys.length = 0 then 1 else if ap < bp then -1 else if bp < ap then 1 else cmpV xs ys (max xs.length ys.length)
/-- c tells how x stands to y. -/
def Cmp (c x y : Int) : Prop := (c = -1 ∧ x < y) ∨ (c = 0 ∧ x = y) ∨ (c = 1 ∧ y < x)
theorem cmpMag_is {xs ys : List Int} {ap bp : Int} {K : Nat} (hx : Norm xs) (hy : Norm ys) (k1 : (xs.length : Int) ≤ K + ap) (k2 : (ys.length : Int) ≤ K + bp) : Cmp (cmpMag xs ap ys bp) (mag xs ap K) (mag ys bp K) := by
  unfold cmpMag
  split
  · rename_i h; rw [mag_empty h.1, mag_empty h.2]; exact .inr (.inl ⟨rfl, rfl⟩)
  · split
    · rename_i h1 h2; rw [mag_empty h2]; exact .inl ⟨rfl, mag_pos hy (by omega) _ _⟩
    · split
      · rename_i h1 h2 h3; rw [mag_empty h3]; exact .inr (.inr ⟨rfl, mag_pos hx (by omega) _ _⟩)
      · rename_i h1 h2 h3
        have bx := mag_bounds hx (by omega) k1
        have by' := mag_bounds hy (by omega) k2
        split
        · rename_i h
          have := pow_mono10 (show ((K : Int) + ap).toNat ≤ ((K : Int) + bp - 1).toNat from by omega)
          exact .inl ⟨rfl, by omega⟩
        · split
          · rename_i h
            have := pow_mono10 (show ((K : Int) + bp).toNat ≤ ((K : Int) + ap - 1).toNat from by omega)
            exact .inr (.inr ⟨rfl, by omega⟩)
          · rename_i h4 h5
            obtain rfl : ap = bp := by omega
            have hm : ((max xs.length ys.length : Nat) : Int) ≤ K + ap := by omega
            rw [mag_padR (Nat.le_max_left _ _) hm, mag_padR (Nat.le_max_right xs.length _) hm]
            have hp := pow_pos10 ((K : Int) + ap - (max xs.length ys.length : Nat)).toNat
            unfold cmpV
            split
            · rename_i h; exact .inl ⟨rfl, Int.mul_lt_mul_of_pos_right h hp⟩
            · split
              · rename_i h; exact .inr (.inr ⟨rfl, Int.mul_lt_mul_of_pos_right h hp⟩)
              · exact .inr (.inl ⟨rfl, by congr 1; omega⟩)

def sgn (neg : Bool) (ds : List Int) : Int := if ds.length = 0 then 0 else if neg then -1 else 1
def cmpDec (an : Bool) (xs : List Int) (ap : Int) (bn : Bool) (ys : List Int) (bp : Int) : Int :=
  if sgn an xs < sgn bn ys then -1 else if sgn bn ys < sgn an xs then 1 else if sgn an xs = 0 then 0 else if sgn an xs < 0 then -(cmpMag xs ap ys bp) else cmpMag xs ap ys bp
def smag (neg : Bool) (ds : List Int) (p : Int) (K : Nat) : Int := if neg then -(mag ds p K) else mag ds p K
theorem smag_sgn {ds : List Int} (h : Norm ds) (neg : Bool) (p : Int) (K : Nat) : (sgn neg ds = 0 ∧ smag neg ds p K = 0) ∨ (sgn neg ds = -1 ∧ neg = true ∧ 0 < mag ds p K ∧ smag neg ds p K = -(mag ds p K)) ∨ (sgn neg ds = 1 ∧ neg = false ∧ 0 < mag ds p K ∧ smag neg ds p K = mag ds p K) := by
  unfold sgn smag
  by_cases h0 : ds.length = 0
  · rw [mag_empty h0]; exact .inl ⟨by rw [if_pos h0], by simp⟩
  · have := mag_pos h (by omega) p K
    rw [if_neg h0]
    cases neg
    · exact .inr (.inr ⟨by simp, rfl, this, by simp⟩)
    · exact .inr (.inl ⟨by simp, rfl, this, by simp⟩)
theorem cmpDec_is {an bn : Bool} {xs ys : List Int} {ap bp : Int} {K : Nat} (hx : Norm xs) (hy : Norm ys) (k1 : (xs.length : Int) ≤ K + ap) (k2 : (ys.length : Int) ≤ K + bp) : Cmp (cmpDec an xs ap bn ys bp) (smag an xs ap K) (smag bn ys bp K) := by
  have hc := cmpMag_is (K := K) hx hy k1 k2
  unfold cmpDec
  generalize cmpMag xs ap ys bp = c at *
  rcases smag_sgn hx an ap K with ⟨a1, a2⟩ | ⟨a1, a2, a3, a4⟩ | ⟨a1, a2, a3, a4⟩ <;> rcases smag_sgn hy bn bp K with ⟨b1, b2⟩ | ⟨b1, b2, b3, b4⟩ | ⟨b1, b2, b3, b4⟩ <;> rw [a1, b1] <;> unfold Cmp at * <;> simp <;> omega

/-- rs, rp: the number T / 10^P, written without needless '0's. -/
def NormOf (T : Int) (P : Nat) (rs : List Int) (rp : Int) : Prop :=
  Norm rs ∧ (rs.length = 0 ↔ T = 0) ∧ ∃ u : Nat, rp = rs.length + u - P ∧ T = val10 rs * 10 ^ u
theorem NormOf.mag {T : Int} {P : Nat} {rs : List Int} {rp : Int} (h : NormOf T P rs rp) {K : Nat} (hK : P ≤ K) : (rs.length : Int) ≤ K + rp ∧ mag rs rp K = T * 10 ^ (K - P) := by
  obtain ⟨h1, h2, u, rfl, rfl⟩ := h
  refine ⟨by omega, ?_⟩
  unfold Qxb6600033a.mag
  rw [Int.mul_assoc, ← pow_add10]
  congr 2
  omega

theorem val_last {l : List Int} (hd : IsDig l) {i : Nat} (hi : i < l.length) (h : dg l i ≠ 48) : 0 < val10 l := by
  have hb := val_bounds l hd
  rcases Int.lt_or_le 0 (val10 l) with h' | h'
  · exact h'
  · exact absurd (val_zero_all l hd (by omega) i hi) h
theorem dg_drop (l : List Int) (j i : Nat) : dg (l.drop j) i = dg l (j + i) := by
  simp [dg, List.getD_eq_getElem?_getD, List.getElem?_drop]

theorem bracket {ds : List Int} {pt : Int} {P K : Nat} (hv : Valid ds) (h0 : ds.length = 0 → pt = 0) (hK : (ds.length : Int) ≤ K + pt) (hP : P ≤ K) :
    pre ds (pt + P).toNat * 10 ^ (K - P) ≤ mag ds pt K ∧ mag ds pt K < (pre ds (pt + P).toNat + 1) * 10 ^ (K - P) ∧ (pt + P < ds.length → pre ds (pt + P).toNat * 10 ^ (K - P) < mag ds pt K) ∧ (ds.length ≤ pt + P → mag ds pt K = pre ds (pt + P).toNat * 10 ^ (K - P)) := by
  have hpos := pow_pos10 (K - P)
  rcases Int.lt_or_le (pt + P) 0 with h | h
  · rw [show (pt + P).toNat = 0 from by omega]
    have hl : 0 < ds.length := by
      rcases Nat.eq_zero_or_pos ds.length with h1 | h1
      · have := h0 h1; omega
      · exact h1
    have hb := mag_bounds hv.norm hl hK
    have := pow_pos10 ((K : Int) + pt - 1).toNat
    have := pow_mono10 (show ((K : Int) + pt).toNat ≤ K - P by omega)
    simp only [pre, Int.zero_mul, Int.zero_add, Int.one_mul]
    exact ⟨by omega, by omega, fun _ => by omega, fun _ => by omega⟩
  · obtain ⟨j, hj⟩ : ∃ j : Nat, pt + P = j := ⟨(pt + P).toNat, by omega⟩
    rw [hj, Int.toNat_natCast]
    rcases Nat.lt_or_ge j ds.length with h1 | h1
    · have e1 : val10 ds = pre ds j * 10 ^ (ds.length - j) + val10 (ds.drop j) := by
        have := val_append (ds.take j) (ds.drop j)
        rw [List.take_append_drop, List.length_drop, ← pre_take j (by omega)] at this
        exact this
      have e2 := val_bounds (ds.drop j) (dig_drop hv.1 j)
      rw [List.length_drop] at e2
      have e3 : 0 < val10 (ds.drop j) := val_last (dig_drop hv.1 j) (i := ds.length - 1 - j) (by rw [List.length_drop]; omega) (by
        rw [dg_drop, show j + (ds.length - 1 - j) = ds.length - 1 from by omega]
        exact (hv.2 (by omega)).2)
      have hp := pow_pos10 ((K : Int) + pt - ds.length).toNat
      have e4 : (10 : Int) ^ (K - P) = 10 ^ (ds.length - j) * 10 ^ ((K : Int) + pt - ds.length).toNat := by
        rw [← pow_add10]; congr 1; omega
      have e5 : mag ds pt K = pre ds j * 10 ^ (K - P) + val10 (ds.drop j) * 10 ^ ((K : Int) + pt - ds.length).toNat := by
        unfold mag
        rw [e1, Int.add_mul, Int.mul_assoc, ← e4]
      have e6 := Int.mul_pos e3 hp
      have e7 := Int.mul_lt_mul_of_pos_right e2.2 hp
      rw [← e4] at e7
      rw [Int.add_mul, Int.one_mul, e5]
      exact ⟨by omega, by omega, fun _ => by omega, fun _ => by omega⟩
    · have e1 : pre ds j = val10 ds * 10 ^ (j - ds.length) := by
        have := pre_past (ds := ds) (j - ds.length)
        rwa [show ds.length + (j - ds.length) = j from by omega] at this
      have e2 : mag ds pt K = pre ds j * 10 ^ (K - P) := by
        unfold mag
        rw [e1, Int.mul_assoc, ← pow_add10]
        congr 2
        omega
      rw [Int.add_mul, Int.one_mul, e2]
      exact ⟨by omega, by omega, fun _ => by omega, fun _ => rfl⟩

/-- The digits kept, counted up where some are cut off. -/
def flF1 (ds : List Int) (pt : Int) (P : Nat) : Int := if pt + P < ds.length then fr ds pt P + 1 else fr ds pt P
def flW (neg : Bool) (ds : List Int) (pt : Int) (P : Nat) : Int := if neg then (if flF1 ds pt P = 0 then -(pre ds pt.toNat) else -(pre ds pt.toNat + 1)) else pre ds pt.toNat
def flF (neg : Bool) (ds : List Int) (pt : Int) (P : Nat) : Int := if neg then (if flF1 ds pt P = 0 then 0 else 10 ^ P - flF1 ds pt P) else fr ds pt P

theorem fl_sum (neg : Bool) (ds : List Int) (pt : Int) (P : Nat) : flW neg ds pt P * 10 ^ P + flF neg ds pt P = if neg then (if pt + P < ds.length then -(pre ds (pt + P).toNat + 1) else -(pre ds (pt + P).toNat)) else pre ds (pt + P).toNat := by
  have h := pre_fr (ds := ds) pt P
  unfold flW flF
  cases neg with
  | false => simp; omega
  | true =>
    simp only [if_true]
    by_cases h1 : flF1 ds pt P = 0
    · rw [if_pos h1, if_pos h1, Int.neg_mul]
      unfold flF1 at h1
      split at h1
      · rename_i h2; rw [if_pos h2]; omega
      · rename_i h2; rw [if_neg h2]; omega
    · rw [if_neg h1, if_neg h1, Int.neg_mul, Int.add_mul, Int.one_mul]
      unfold flF1
      split
      · rename_i h2; omega
      · rename_i h2; omega
theorem fl_range (neg : Bool) {ds : List Int} (hd : IsDig ds) {pt : Int} (hpt : pt ≤ 18) (P : Nat) : 0 ≤ flF neg ds pt P ∧ flF neg ds pt P < 10 ^ P ∧ -1000000000000000000 ≤ flW neg ds pt P ∧ flW neg ds pt P ≤ 1000000000000000000 := by
  have h1 := fr_range hd pt P
  have h2 := pre_range hd pt.toNat
  have h3 := pow_mono10 (show pt.toNat ≤ 18 by omega)
  have h4 : (10 : Int) ^ 18 = 1000000000000000000 := rfl
  have h5 := pow_pos10 P
  have h6 : 0 ≤ flF1 ds pt P ∧ flF1 ds pt P ≤ 10 ^ P := by unfold flF1; split <;> omega
  unfold flF flW
  cases neg with
  | false => simp; omega
  | true =>
    simp only [if_true]
    split <;> omega
theorem fl_bracket (neg : Bool) {ds : List Int} {pt : Int} {P K : Nat} (hv : Valid ds) (h0 : ds.length = 0 → pt = 0) (hK : (ds.length : Int) ≤ K + pt) (hP : P ≤ K) :
    (flW neg ds pt P * 10 ^ P + flF neg ds pt P) * 10 ^ (K - P) ≤ smag neg ds pt K ∧ smag neg ds pt K < (flW neg ds pt P * 10 ^ P + (flF neg ds pt P + 1)) * 10 ^ (K - P) := by
  have h := bracket hv h0 hK hP
  rw [← Int.add_assoc, fl_sum]
  generalize pre ds (pt + P).toNat = q at *
  generalize (10 : Int) ^ (K - P) = U at *
  unfold smag
  generalize mag ds pt K = D at *
  rw [Int.add_mul, Int.one_mul] at h
  cases neg with
  | false => simp only [Bool.false_eq_true, if_false]; rw [Int.add_mul, Int.one_mul]; omega
  | true =>
    simp only [if_true]
    by_cases h1 : pt + P < ds.length
    · rw [if_pos h1]
      have := h.2.2.1 h1
      rw [show -(q + 1) + 1 = -q from by omega, Int.neg_mul, Int.neg_mul, Int.add_mul, Int.one_mul]
      omega
    · rw [if_neg h1]
      have := h.2.2.2 (by omega)
      have hU : 0 < U := by omega
      rw [Int.add_mul, Int.neg_mul, Int.one_mul]
      omega

/-- What zzB1FromWholeFrac answers, as a signed number. -/
theorem smag_of {S : Int} {P K : Nat} {rs : List Int} {rp : Int} {wn : Bool} (hP : P ≤ K) (h : NormOf (if wn then -S else S) P rs rp) : (rs.length : Int) ≤ K + rp ∧ smag (wn && decide (0 < rs.length)) rs rp K = S * 10 ^ (K - P) := by
  have hm := h.mag hP
  refine ⟨hm.1, ?_⟩
  unfold smag
  by_cases h0 : rs.length = 0
  · have : S = 0 := by
      have := h.2.1.1 h0
      cases wn <;> simp at this <;> omega
    rw [mag_empty h0, this]; simp
  · rw [hm.2]
    cases wn with
    | false => simp
    | true => simp; rw [if_pos (by omega), Int.neg_mul, Int.neg_neg]

/-- THE PLAIN LAW. -/
theorem floor_law (neg : Bool) {ds : List Int} {pt : Int} {P : Nat} (hv : Valid ds) (h0 : ds.length = 0 → pt = 0) (hl : ds.length ≤ 65536) (hpt : -10000 ≤ pt) (hP : P ≤ 19)
    {l h : List Int} {lp hp : Int} {wn : Bool} (hlo : NormOf (if wn then -(flW neg ds pt P * 10 ^ P + flF neg ds pt P) else flW neg ds pt P * 10 ^ P + flF neg ds pt P) P l lp)
    (hhi : NormOf (if wn then -(flW neg ds pt P * 10 ^ P + (flF neg ds pt P + 1)) else flW neg ds pt P * 10 ^ P + (flF neg ds pt P + 1)) P h hp) :
    cmpDec (wn && decide (0 < l.length)) l lp neg ds pt ≤ 0 ∧ cmpDec neg ds pt (wn && decide (0 < h.length)) h hp < 0 := by
  have hK : (ds.length : Int) ≤ ((100000 : Nat) : Int) + pt := by omega
  have hb := fl_bracket neg (K := 100000) hv h0 hK (show P ≤ 100000 by omega)
  have e1 := smag_of (K := 100000) (show P ≤ 100000 by omega) hlo
  have e2 := smag_of (K := 100000) (show P ≤ 100000 by omega) hhi
  have c1 := cmpDec_is (an := wn && decide (0 < l.length)) (bn := neg) hlo.1 hv.norm e1.1 hK
  have c2 := cmpDec_is (an := neg) (bn := wn && decide (0 < h.length)) hv.norm hhi.1 hK e2.1
  rw [e1.2] at c1
  rw [e2.2] at c2
  rcases c1 with ⟨c1, c1'⟩ | ⟨c1, c1'⟩ | ⟨c1, c1'⟩ <;> rcases c2 with ⟨c2, c2'⟩ | ⟨c2, c2'⟩ | ⟨c2, c2'⟩ <;> omega

end Go.Proofs.Qxb6600033a
