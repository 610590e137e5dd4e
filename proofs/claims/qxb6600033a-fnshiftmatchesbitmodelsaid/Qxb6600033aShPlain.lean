/-
  THE PLAIN LAW OF 'FnShiftMatchesBitModel': numbers and their bits, no Go in sight.
-/
import Derived.Laws.BitsAllLaws
namespace Go.Proofs.Qxb6600033a
set_option linter.unusedVariables false

/-- The 128-bit number. -/
def big (hi lo : Nat) : Nat := 2 ^ 64 * hi + lo
theorem big_bit (hi lo j : Nat) (hl : lo < 2 ^ 64) : (big hi lo).testBit j = if j < 64 then lo.testBit j else hi.testBit (j - 64) := Nat.testBit_two_pow_mul_add hi hl j

def overB (V : Nat) (sm : Int) : Nat → Bool
  | 0 => false
  | i + 1 => overB V sm i || (V.testBit i && decide (64 ≤ (i : Int) + sm))
def lostB (V : Nat) (sm : Int) : Nat → Bool
  | 0 => false
  | i + 1 => lostB V sm i || (V.testBit i && decide ((i : Int) + sm < 0))
def mfB (V : Nat) (sm : Int) : Nat → Nat
  | 0 => 0
  | i + 1 => if V.testBit i = true ∧ 0 ≤ (i : Int) + sm ∧ (i : Int) + sm < 64 then mfB V sm i ||| 2 ^ ((i : Int) + sm).toNat else mfB V sm i

theorem over_iff (V : Nat) (sm : Int) (n : Nat) : overB V sm n = true ↔ ∃ i, i < n ∧ V.testBit i = true ∧ 64 ≤ (i : Int) + sm := by
  induction n with
  | zero => simp [overB]
  | succ n ih =>
    simp only [overB, Bool.or_eq_true, ih, Bool.and_eq_true, decide_eq_true_eq]
    constructor
    · rintro (⟨i, h1, h2⟩ | h)
      · exact ⟨i, by omega, h2⟩
      · exact ⟨n, by omega, h⟩
    · rintro ⟨i, h1, h2⟩
      by_cases e : i = n
      · subst e; exact .inr h2
      · exact .inl ⟨i, by omega, h2⟩
theorem lost_iff (V : Nat) (sm : Int) (n : Nat) : lostB V sm n = true ↔ ∃ i, i < n ∧ V.testBit i = true ∧ (i : Int) + sm < 0 := by
  induction n with
  | zero => simp [lostB]
  | succ n ih =>
    simp only [lostB, Bool.or_eq_true, ih, Bool.and_eq_true, decide_eq_true_eq]
    constructor
    · rintro (⟨i, h1, h2⟩ | h)
      · exact ⟨i, by omega, h2⟩
      · exact ⟨n, by omega, h⟩
    · rintro ⟨i, h1, h2⟩
      by_cases e : i = n
      · subst e; exact .inr h2
      · exact .inl ⟨i, by omega, h2⟩
theorem mf_bit (V : Nat) (sm : Int) (n j : Nat) : (mfB V sm n).testBit j = true ↔ j < 64 ∧ 0 ≤ (j : Int) - sm ∧ (j : Int) - sm < n ∧ V.testBit ((j : Int) - sm).toNat = true := by
  induction n with
  | zero => simp [mfB]; omega
  | succ n ih =>
    simp only [mfB]
    split
    · rename_i h
      rw [Nat.testBit_or, Bool.or_eq_true, ih, Nat.testBit_two_pow, decide_eq_true_eq]
      constructor
      · rintro (⟨h1, h2, h3, h4⟩ | e)
        · exact ⟨h1, h2, by omega, h4⟩
        · refine ⟨by omega, by omega, by omega, ?_⟩
          rw [show ((j : Int) - sm).toNat = n from by omega]; exact h.1
      · rintro ⟨h1, h2, h3, h4⟩
        by_cases e : (j : Int) - sm = n
        · exact .inr (by omega)
        · exact .inl ⟨h1, h2, by omega, h4⟩
    · rename_i h
      rw [ih]
      constructor
      · rintro ⟨h1, h2, h3, h4⟩; exact ⟨h1, h2, by omega, h4⟩
      · rintro ⟨h1, h2, h3, h4⟩
        refine ⟨h1, h2, ?_, h4⟩
        by_cases e : (j : Int) - sm = n
        · exfalso; apply h
          rw [show ((j : Int) - sm).toNat = n from by omega] at h4
          exact ⟨h4, by omega, by omega⟩
        · omega
theorem mf_lt (V : Nat) (sm : Int) (n : Nat) : mfB V sm n < 2 ^ 64 := by
  apply Nat.lt_pow_two_of_testBit
  intro j hj
  cases h : (mfB V sm n).testBit j
  · rfl
  · have := (mf_bit V sm n j).1 h; omega

/-- A number whose bits are the model's is the model's. -/
theorem mf_eq (F V : Nat) (sm : Int) (n : Nat) (h : ∀ j, F.testBit j = true ↔ j < 64 ∧ 0 ≤ (j : Int) - sm ∧ (j : Int) - sm < n ∧ V.testBit ((j : Int) - sm).toNat = true) : F = mfB V sm n := by
  apply Nat.eq_of_testBit_eq
  intro j
  rw [Bool.eq_iff_iff, h, mf_bit]

/-- What the law asks of what 'shift' gave. -/
def Meets (V : Nat) (sm : Int) (F : Nat) (ex ok : Bool) : Prop :=
  (overB V sm 128 = true → ok = false) ∧ (overB V sm 128 = false → ok = true ∧ F = mfB V sm 128 ∧ ex = !lostB V sm 128)

theorem bit_of_pos {V : Nat} (h : V ≠ 0) : ∃ i, V.testBit i = true := Nat.exists_testBit_of_ne_zero h
theorem lt_of_bit {V n i : Nat} (hV : V < 2 ^ n) (h : V.testBit i = true) : i < n := by
  rcases Nat.lt_or_ge i n with h' | h'
  · exact h'
  · rw [Nat.testBit_lt_two_pow (Nat.lt_of_lt_of_le hV (Nat.pow_le_pow_right (by omega) h'))] at h; cases h
theorem big_lt {hi lo : Nat} (hh : hi < 2 ^ 64) (hl : lo < 2 ^ 64) : big hi lo < 2 ^ 128 := by
  unfold big; omega

theorem over_of {V : Nat} {sm : Int} (hV : V < 2 ^ 128) (i : Nat) (hi : V.testBit i = true) (h : 64 ≤ (i : Int) + sm) : overB V sm 128 = true :=
  (over_iff V sm 128).2 ⟨i, lt_of_bit hV hi, hi, h⟩
theorem over_no {V : Nat} {sm : Int} (h : ∀ i, V.testBit i = true → (i : Int) + sm < 64) : overB V sm 128 = false := by
  cases e : overB V sm 128
  · rfl
  · obtain ⟨i, _, h1, h2⟩ := (over_iff V sm 128).1 e
    have := h i h1; omega
theorem lost_no {V : Nat} {sm : Int} (h : ∀ i, V.testBit i = true → 0 ≤ (i : Int) + sm) : lostB V sm 128 = false := by
  cases e : lostB V sm 128
  · rfl
  · obtain ⟨i, _, h1, h2⟩ := (lost_iff V sm 128).1 e
    have := h i h1; omega

theorem meets_refused {V : Nat} {sm : Int} (F : Nat) (ex : Bool) (hV : V < 2 ^ 128) (h : ∃ i, V.testBit i = true ∧ 64 ≤ (i : Int) + sm) : Meets V sm F ex false := by
  obtain ⟨i, h1, h2⟩ := h
  have := over_of hV i h1 h2
  exact ⟨fun _ => rfl, fun h => by rw [this] at h; cases h⟩

/-- s >= 0, refused. -/
theorem meets_up_no (hi lo : Nat) (s sm : Int) (hh : hi < 2 ^ 64) (hl : lo < 2 ^ 64) (h0 : ¬ (hi = 0 ∧ lo = 0)) (hs : 0 ≤ s) (hsm : sm = if 200 < s then 200 else s)
    (h : hi ≠ 0 ∨ 64 ≤ s ∨ (s < 64 ∧ lo / 2 ^ (64 - s.toNat) ≠ 0)) : Meets (big hi lo) sm 0 false false := by
  refine meets_refused 0 false (big_lt hh hl) ?_
  have hsm0 : 0 ≤ sm := by rw [hsm]; split <;> omega
  by_cases e : hi = 0
  · subst e
    have hbl : big 0 lo = lo := by simp [big]
    rw [hbl]
    by_cases hs64 : 64 ≤ s
    · obtain ⟨i, h1⟩ := bit_of_pos (V := lo) (by intro e; exact h0 ⟨rfl, e⟩)
      exact ⟨i, h1, by rw [hsm]; split <;> omega⟩
    · have h3 : lo / 2 ^ (64 - s.toNat) ≠ 0 := by rcases h with h | h | h; exact absurd rfl h; omega; exact h.2
      obtain ⟨i, h1⟩ := bit_of_pos h3
      rw [Nat.testBit_div_two_pow] at h1
      exact ⟨_, h1, by rw [hsm]; split <;> omega⟩
  · obtain ⟨i, h1⟩ := bit_of_pos e
    refine ⟨i + 64, ?_, by omega⟩
    rw [big_bit hi lo _ hl, if_neg (by omega), show i + 64 - 64 = i from by omega]
    exact h1

/-- s >= 0, accepted. -/
theorem meets_up (lo s : Nat) (hl : lo < 2 ^ 64) (hs : s < 64) (h : lo / 2 ^ (64 - s) = 0) : Meets (big 0 lo) s (lo * 2 ^ s) true true ∧ lo * 2 ^ s < 2 ^ 64 := by
  have hbl : big 0 lo = lo := by simp [big]
  have hlt : lo < 2 ^ (64 - s) := by
    rcases Nat.lt_or_ge lo (2 ^ (64 - s)) with h' | h'
    · exact h'
    · exact absurd h (Nat.ne_of_gt (Nat.div_pos h' (Nat.two_pow_pos _)))
  have hbits : ∀ i, lo.testBit i = true → i < 64 - s := fun i hi => lt_of_bit hlt hi
  rw [hbl]
  refine ⟨⟨fun h' => ?_, fun _ => ⟨rfl, ?_, ?_⟩⟩, ?_⟩
  · rw [over_no (fun i hi => by have := hbits i hi; omega)] at h'; cases h'
  · apply mf_eq
    intro j
    rw [Nat.testBit_mul_two_pow]
    constructor
    · intro hj
      simp only [Bool.and_eq_true, decide_eq_true_eq] at hj
      have := hbits _ hj.2
      refine ⟨by omega, by omega, by omega, ?_⟩
      rw [show ((j : Int) - s).toNat = j - s from by omega]; exact hj.2
    · rintro ⟨h1, h2, h3, h4⟩
      simp only [Bool.and_eq_true, decide_eq_true_eq]
      rw [show ((j : Int) - s).toNat = j - s from by omega] at h4
      exact ⟨by omega, h4⟩
  · rw [lost_no (fun i _ => by omega)]; rfl
  · calc lo * 2 ^ s < 2 ^ (64 - s) * 2 ^ s := Nat.mul_lt_mul_of_pos_right hlt (Nat.two_pow_pos _)
      _ = 2 ^ 64 := by rw [← Nat.pow_add, show 64 - s + s = 64 from by omega]

/-- s <= -128. -/
theorem meets_far (hi lo : Nat) (sm : Int) (hh : hi < 2 ^ 64) (hl : lo < 2 ^ 64) (h0 : ¬ (hi = 0 ∧ lo = 0)) (hs : sm ≤ -128) : Meets (big hi lo) sm 0 false true := by
  have hV := big_lt hh hl
  have hb : ∀ i, (big hi lo).testBit i = true → i < 128 := fun i hi => lt_of_bit hV hi
  refine ⟨fun h' => ?_, fun _ => ⟨rfl, ?_, ?_⟩⟩
  · rw [over_no (fun i hi => by have := hb i hi; omega)] at h'; cases h'
  · apply mf_eq
    intro j
    simp
    intro h1 h2 h3 
    omega
  · obtain ⟨i, h1⟩ := bit_of_pos (V := big hi lo) (by unfold big; omega)
    rw [(lost_iff _ _ _).2 ⟨i, hb i h1, h1, by have := hb i h1; omega⟩]; rfl

theorem mod_zero_iff (x r : Nat) : x % 2 ^ r = 0 ↔ ∀ i, i < r → x.testBit i = false := by
  constructor
  · intro h i hi
    have := congrArg (fun y => y.testBit i) h
    simpa [Nat.testBit_mod_two_pow, hi] using this
  · intro h
    apply Nat.eq_of_testBit_eq
    intro i
    simp only [Nat.testBit_mod_two_pow, Nat.zero_testBit, Bool.and_eq_false_iff, decide_eq_false_iff_not]
    by_cases hi : i < r
    · exact .inr (h i hi)
    · exact .inl hi

/-- -128 < s <= -64: s = -(64 + r). -/
theorem meets_high (hi lo r : Nat) (hh : hi < 2 ^ 64) (hl : lo < 2 ^ 64) (hr : r < 64) : Meets (big hi lo) (-(64 + (r : Int))) (hi / 2 ^ r) (lo == 0 && hi % 2 ^ r == 0) true := by
  have hV := big_lt hh hl
  have hb : ∀ i, (big hi lo).testBit i = true → i < 128 := fun i hi => lt_of_bit hV hi
  have hbh : ∀ i, hi.testBit i = true → i < 64 := fun i h => lt_of_bit hh h
  refine ⟨fun h' => ?_, fun _ => ⟨rfl, ?_, ?_⟩⟩
  · rw [over_no (fun i hi => by have := hb i hi; omega)] at h'; cases h'
  · apply mf_eq
    intro j
    rw [Nat.testBit_div_two_pow]
    constructor
    · intro h
      have := hbh _ h
      refine ⟨by omega, by omega, by omega, ?_⟩
      rw [show ((j : Int) - -(64 + (r : Int))).toNat = r + j + 64 from by omega, big_bit hi lo _ hl, if_neg (by omega), show r + j + 64 - 64 = r + j from by omega]
      rw [Nat.add_comm r j] at *; exact h
    · rintro ⟨h1, h2, h3, h4⟩
      rw [show ((j : Int) - -(64 + (r : Int))).toNat = r + j + 64 from by omega, big_bit hi lo _ hl, if_neg (by omega), show r + j + 64 - 64 = r + j from by omega] at h4
      rw [Nat.add_comm r j] at *; exact h4
  · rw [Bool.eq_iff_iff]
    simp only [Bool.and_eq_true, beq_iff_eq, Bool.not_eq_true']
    constructor
    · rintro ⟨h1, h2⟩
      rw [mod_zero_iff] at h2
      apply lost_no
      intro i hi'
      rw [big_bit hi lo _ hl] at hi'
      split at hi'
      · subst h1; simp at hi'
      · rename_i h64
        rcases Nat.lt_or_ge (i - 64) r with h' | h'
        · rw [h2 _ h'] at hi'; cases hi'
        · omega
    · intro h
      have hno : ∀ i, i < 64 + r → (big hi lo).testBit i = false := by
        intro i hi'
        cases e : (big hi lo).testBit i
        · rfl
        · rw [(lost_iff _ _ _).2 ⟨i, by omega, e, by omega⟩] at h; cases h
      refine ⟨?_, ?_⟩
      · apply Nat.eq_of_testBit_eq
        intro i
        rw [Nat.zero_testBit]
        rcases Nat.lt_or_ge i 64 with h' | h'
        · have := hno i (by omega)
          rw [big_bit hi lo _ hl, if_pos h'] at this
          exact this
        · exact Nat.testBit_lt_two_pow (Nat.lt_of_lt_of_le hl (Nat.pow_le_pow_right (by omega) h'))
      · rw [mod_zero_iff]
        intro i hi'
        have := hno (i + 64) (by omega)
        rw [big_bit hi lo _ hl, if_neg (by omega), show i + 64 - 64 = i from by omega] at this
        exact this

/-- -64 < s < 0: s = -r; refused. -/
theorem meets_mid_no (hi lo r : Nat) (hh : hi < 2 ^ 64) (hl : lo < 2 ^ 64) (h : hi / 2 ^ r ≠ 0) : Meets (big hi lo) (-(r : Int)) 0 false false := by
  refine meets_refused 0 false (big_lt hh hl) ?_
  obtain ⟨i, h1⟩ := bit_of_pos h
  rw [Nat.testBit_div_two_pow] at h1
  refine ⟨i + r + 64, ?_, by omega⟩
  rw [big_bit hi lo _ hl, if_neg (by omega), show i + r + 64 - 64 = i + r from by omega]
  exact h1

/-- -64 < s < 0: s = -r; accepted. -/
theorem meets_mid (hi lo r : Nat) (hh : hi < 2 ^ 64) (hl : lo < 2 ^ 64) (hr : r < 64) (h : hi / 2 ^ r = 0) : Meets (big hi lo) (-(r : Int)) (hi * 2 ^ (64 - r) ||| lo / 2 ^ r) (lo % 2 ^ r == 0) true := by
  have hV := big_lt hh hl
  have hlt : hi < 2 ^ r := by
    rcases Nat.lt_or_ge hi (2 ^ r) with h' | h'
    · exact h'
    · exact absurd h (Nat.ne_of_gt (Nat.div_pos h' (Nat.two_pow_pos _)))
  have hbh : ∀ i, hi.testBit i = true → i < r := fun i h => lt_of_bit hlt h
  have hbl : ∀ i, lo.testBit i = true → i < 64 := fun i h => lt_of_bit hl h
  have hb : ∀ i, (big hi lo).testBit i = true → i < 64 + r := by
    intro i hi'
    rw [big_bit hi lo _ hl] at hi'
    split at hi'
    · omega
    · have := hbh _ hi'; omega
  refine ⟨fun h' => ?_, fun _ => ⟨rfl, ?_, ?_⟩⟩
  · rw [over_no (fun i hi => by have := hb i hi; omega)] at h'; cases h'
  · apply mf_eq
    intro j
    rw [Nat.testBit_or, Bool.or_eq_true, Nat.testBit_mul_two_pow, Nat.testBit_div_two_pow, Bool.and_eq_true, decide_eq_true_eq]
    rw [show ((j : Int) - -(r : Int)).toNat = j + r from by omega, big_bit hi lo _ hl]
    constructor
    · rintro (⟨h1, h2⟩ | h1)
      · have := hbh _ h2
        refine ⟨by omega, by omega, by omega, ?_⟩
        rw [if_neg (by omega), show j + r - 64 = j - (64 - r) from by omega]; exact h2
      · have := hbl _ h1
        refine ⟨by omega, by omega, by omega, ?_⟩
        rw [if_pos (by omega)]; exact h1
    · rintro ⟨h1, h2, h3, h4⟩
      split at h4
      · exact .inr h4
      · refine .inl ⟨by omega, ?_⟩
        rw [show j + r - 64 = j - (64 - r) from by omega] at h4; exact h4
  · rw [Bool.eq_iff_iff]
    simp only [beq_iff_eq, Bool.not_eq_true']
    rw [mod_zero_iff]
    constructor
    · intro h2
      apply lost_no
      intro i hi'
      rw [big_bit hi lo _ hl] at hi'
      split at hi'
      · rcases Nat.lt_or_ge i r with h' | h'
        · rw [h2 _ h'] at hi'; cases hi'
        · omega
      · omega
    · intro h' i hi'
      cases e : lo.testBit i
      · rfl
      · rw [(lost_iff _ _ _).2 ⟨i, by omega, by rw [big_bit hi lo _ hl, if_pos (by omega)]; exact e, by omega⟩] at h'; cases h'
end Go.Proofs.Qxb6600033a
