/-
  THE PLAIN LAW OF 'FnUint32ExactlyCanonicalAndInverseOfEncode': lists of numbers, no Go in sight.
-/
import Derived.Test.Qxb6002407aBase
namespace Go.Proofs.Qxb6002407a
set_option linter.unusedVariables false

/-- The octets of v without leading zeros, the highest first. -/
def be (v : Int) : List Int :=
  if v ≤ 0 then [] else if v < 256 then [v] else if v < 65536 then [v / 256, v % 256]
  else if v < 16777216 then [v / 65536, v / 256 % 256, v % 256] else [v / 16777216, v / 65536 % 256, v / 256 % 256, v % 256]

/-- The canonical contents. -/
def enc (v : Int) : List Int := match be v with
  | [] => [0]
  | c :: r => if 128 ≤ c then 0 :: c :: r else c :: r

def val (l : List Int) : Int := l.foldl (fun a x => a * 256 + x) 0

/-- What 'Uint32' goes on from: one zero octet at the head is dropped. -/
def strip : List Int → List Int
  | 0 :: r => r
  | l => l

/-- What 'Uint32' accepts. -/
def okU (zs : List Int) : Bool := okInt zs && decide (zs.headD 0 < 128) && decide ((strip zs).length ≤ 4)

/-- How many zero octets stand ahead. -/
def lead : List Int → Nat
  | [] => 0
  | c :: r => if c = 0 then lead r + 1 else 0

def padOf (m : List Int) : Nat := match m with
  | [] => 1
  | c :: _ => if 128 ≤ c then 1 else 0

/-- What the law's model wants. -/
def wantU (zs : List Int) : Bool := decide ((zs.drop (lead zs)).length ≤ 4) && decide (lead zs = padOf (zs.drop (lead zs)))

def Bytes (zs : List Int) : Prop := ∀ x ∈ zs, 0 ≤ x ∧ x ≤ 255

theorem be_zero : be 0 = [] := by simp [be]
theorem be_step (v : Int) (h : 0 < v) (h2 : v < 4294967296) : be v = be (v / 256) ++ [v % 256] := by
  by_cases h1 : v < 256
  · have : v / 256 = 0 := by omega
    rw [this, be_zero, be, if_neg (by omega), if_pos h1, show v % 256 = v from by omega]; rfl
  · by_cases h3 : v < 65536
    · rw [be, be, if_neg (by omega), if_neg h1, if_pos h3, if_neg (by omega), if_pos (by omega)]; rfl
    · by_cases h4 : v < 16777216
      · rw [be, be, if_neg (by omega), if_neg h1, if_neg h3, if_pos h4, if_neg (by omega), if_neg (by omega), if_pos (by omega), show v / 65536 = v / 256 / 256 from by omega]; rfl
      · rw [be, be, if_neg (by omega), if_neg h1, if_neg h3, if_neg h4, if_neg (by omega), if_neg (by omega), if_neg (by omega), if_pos (by omega), show v / 16777216 = v / 256 / 65536 from by omega, show v / 65536 % 256 = v / 256 / 256 % 256 from by omega]; rfl
theorem be_length (v : Int) : (be v).length ≤ 4 := by
  unfold be; repeat (first | split | simp)
theorem be_bytes (v : Int) (h2 : v < 4294967296) : Bytes (be v) := by
  unfold be Bytes
  intro x hx
  split at hx
  · simp at hx
  split at hx
  · simp at hx; omega
  split at hx
  · simp at hx; omega
  split at hx
  · simp at hx; omega
  · simp at hx; omega
theorem val_be (v : Int) (h0 : 0 ≤ v) : val (be v) = v := by
  unfold be
  split
  · simp [val]; omega
  split
  · simp [val]
  split
  · simp [val]; omega
  split
  · simp [val]; omega
  · simp [val]; omega
theorem be_head (v : Int) (h0 : 0 < v) : ∃ c r, be v = c :: r ∧ 1 ≤ c := by
  unfold be
  rw [if_neg (by omega)]
  split
  · exact ⟨_, _, rfl, by omega⟩
  split
  · exact ⟨_, _, rfl, by omega⟩
  split
  · exact ⟨_, _, rfl, by omega⟩
  · exact ⟨_, _, rfl, by omega⟩

/-- The octets of a row's value are the row, if no zero stands ahead. -/
theorem be_val (m : List Int) (hl : m.length ≤ 4) (hb : Bytes m) (hh : m.headD 1 ≠ 0) : be (val m) = m := by
  match m, hl, hb, hh with
  | [], _, _, _ => rfl
  | [a], _, hb, hh =>
    have := hb a (by simp)
    simp at hh
    simp only [val, List.foldl]
    rw [be, if_neg (by omega), if_pos (by omega)]; simp
  | [a, b], _, hb, hh =>
    have := hb a (by simp); have := hb b (by simp)
    simp at hh
    simp only [val, List.foldl]
    rw [be, if_neg (by omega), if_neg (by omega), if_pos (by omega)]
    simp; omega
  | [a, b, c], _, hb, hh =>
    have := hb a (by simp); have := hb b (by simp); have := hb c (by simp)
    simp at hh
    simp only [val, List.foldl]
    rw [be, if_neg (by omega), if_neg (by omega), if_neg (by omega), if_pos (by omega)]
    simp; omega
  | [a, b, c, d], _, hb, hh =>
    have := hb a (by simp); have := hb b (by simp); have := hb c (by simp); have := hb d (by simp)
    simp at hh
    simp only [val, List.foldl]
    rw [be, if_neg (by omega), if_neg (by omega), if_neg (by omega), if_neg (by omega)]
    simp; omega
  | _ :: _ :: _ :: _ :: _ :: _, hl, _, _ => simp at hl

theorem val_bound (m : List Int) (hl : m.length ≤ 4) (hb : Bytes m) : 0 ≤ val m ∧ val m < 4294967296 := by
  match m, hl, hb with
  | [], _, _ => simp [val]
  | [a], _, hb => have := hb a (by simp); simp [val]; omega
  | [a, b], _, hb => have := hb a (by simp); have := hb b (by simp); simp [val]; omega
  | [a, b, c], _, hb => have := hb a (by simp); have := hb b (by simp); have := hb c (by simp); simp [val]; omega
  | [a, b, c, d], _, hb => have := hb a (by simp); have := hb b (by simp); have := hb c (by simp); have := hb d (by simp); simp [val]; omega
  | _ :: _ :: _ :: _ :: _ :: _, hl, _ => simp at hl

theorem lead_le (zs : List Int) : lead zs ≤ zs.length := by
  induction zs with
  | nil => simp [lead]
  | cons c r ih => simp only [lead]; split <;> simp <;> omega
theorem drop_head (zs : List Int) : (zs.drop (lead zs)).headD 1 ≠ 0 := by
  induction zs with
  | nil => simp [lead]
  | cons c r ih =>
    simp only [lead]
    split
    · simpa using ih
    · simpa using ‹¬ c = 0›
theorem lead_zero (zs : List Int) (i : Nat) (h : i < lead zs) : zs.getD i 0 = 0 := by
  induction zs generalizing i with
  | nil => simp [lead] at h
  | cons c r ih =>
    simp only [lead] at h
    split at h
    · cases i with
      | zero => simpa
      | succ i => simpa using ih i (by omega)
    · omega
theorem lead_stop (zs : List Int) (h : lead zs < zs.length) : zs.getD (lead zs) 0 ≠ 0 := by
  induction zs with
  | nil => simp at h
  | cons c r ih =>
    simp only [lead] at h ⊢
    split
    · simp only [*, if_true] at h
      simpa using ih (by simpa using h)
    · simpa
/-- A count up to which all is zero, and which stands at the end or at another octet, is 'lead'. -/
theorem lead_is (zs : List Int) (i : Nat) (hi : i ≤ zs.length) (hz : ∀ j, j < i → zs.getD j 0 = 0) (hs : i = zs.length ∨ zs.getD i 0 ≠ 0) : i = lead zs := by
  rcases Nat.lt_trichotomy i (lead zs) with h | h | h
  · exfalso
    rcases hs with h' | h'
    · have := lead_le zs; omega
    · exact h' (lead_zero zs i h)
  · exact h
  · exact absurd (hz _ h) (lead_stop zs (by omega))

theorem val_zero (r : List Int) : val (0 :: r) = val r := by simp [val]
theorem val_strip (zs : List Int) : val (strip zs) = val zs := by
  unfold strip; split
  · rw [val_zero]
  · rfl
theorem val_lead (zs : List Int) : val (zs.drop (lead zs)) = val zs := by
  induction zs with
  | nil => rfl
  | cons c r ih =>
    simp only [lead]
    split
    · subst_vars; simpa [val_zero] using ih
    · rfl

/-- 'Uint32' accepts just what the model wants. -/
theorem ok_want (zs : List Int) (hb : Bytes zs) : okU zs = wantU zs := by
  match zs, hb with
  | [], _ => rfl
  | [c], hb =>
    have := hb c (by simp)
    by_cases h : c = 0
    · subst h; rfl
    · by_cases h2 : 128 ≤ c
      · simp [okU, wantU, okInt, strip, lead, h, padOf, h2, show ¬ c < 128 from by omega]
      · simp [okU, wantU, okInt, strip, lead, h, padOf, h2, show c < 128 from by omega]
  | c :: d :: r, hb =>
    have := hb c (by simp)
    have := hb d (by simp)
    by_cases h : c = 0
    · subst h
      by_cases h2 : 128 ≤ d
      · have : d ≠ 0 := by omega
        simp [okU, wantU, okInt, strip, lead, this, padOf, h2, show ¬ d < 128 from by omega]
      · by_cases h3 : d = 0
        · subst h3
          have : lead r + 1 + 1 ≠ padOf (List.drop (lead r) r) := by
            unfold padOf; split
            · omega
            · split <;> omega
          simp [okU, wantU, okInt, lead, this]
        · simp [okU, wantU, okInt, lead, h3, padOf, h2, show d < 128 from by omega]
    · by_cases h2 : 128 ≤ c
      · simp [okU, wantU, lead, h, padOf, h2, show ¬ c < 128 from by omega]
      · have h255 : c ≠ 255 := by omega
        simp [okU, wantU, okInt, strip, lead, h, padOf, h2, h255, show c < 128 from by omega]

/-- What is wanted is the canonical form of its value. -/
theorem enc_of_want (zs : List Int) (hb : Bytes zs) (h : wantU zs = true) : enc (val zs) = zs := by
  simp only [wantU, Bool.and_eq_true, decide_eq_true_eq] at h
  obtain ⟨h4, hp⟩ := h
  have hbm : Bytes (zs.drop (lead zs)) := fun x hx => hb x (List.mem_of_mem_drop hx)
  have hbe := be_val _ h4 hbm (drop_head zs)
  rw [val_lead] at hbe
  unfold enc
  rw [hbe]
  have hz := lead_zero zs
  have htd : zs = zs.take (lead zs) ++ zs.drop (lead zs) := (List.take_append_drop _ _).symm
  cases hm : zs.drop (lead zs) with
  | nil =>
    rw [hm] at hp htd
    simp only [padOf] at hp
    rw [List.append_nil] at htd
    rw [hp] at htd hz
    have hl := lead_le zs
    match zs, htd, hl, hz with
    | [], _, hl, _ => simp [hp] at hl
    | [c], _, _, hz => have := hz 0 (by omega); simp at this; simp [this]
    | _ :: _ :: _, htd, _, _ => simp at htd
  | cons c r =>
    rw [hm] at hp htd
    simp only [padOf] at hp
    by_cases h2 : 128 ≤ c
    · simp only [h2, if_true] at hp ⊢
      rw [hp] at htd hz
      match zs, htd, hz with
      | [], htd, _ => simp at htd
      | d :: t, htd, hz => have := hz 0 (by omega); simp at this; simp at htd; rw [this, htd]
    · simp only [h2, if_false] at hp ⊢
      rw [hp] at htd
      simpa using htd.symm

theorem enc_facts (v : Int) (h0 : 0 ≤ v) (h2 : v < 4294967296) : okU (enc v) = true ∧ val (strip (enc v)) = v ∧ Bytes (enc v) ∧ 1 ≤ (enc v).length ∧ (enc v).length ≤ 5 := by
  have hb := be_bytes v h2
  have hl := be_length v
  have hv := val_be v h0
  have hbe : Bytes (enc v) := by
    unfold enc; split
    · intro x hx; simp at hx; omega
    · rename_i c r e
      rw [e] at hb
      split
      · intro x hx; simp only [List.mem_cons] at hx
        rcases hx with h | h
        · omega
        · exact hb x (by simpa using h)
      · exact hb
  have hval : val (enc v) = v := by
    unfold enc; split
    · rename_i e; rw [e] at hv; rw [← hv]; rfl
    · rename_i c r e
      rw [e] at hv
      split
      · rw [val_zero]; exact hv
      · exact hv
  refine ⟨?_, by rw [val_strip]; exact hval, hbe, ?_⟩
  · rw [ok_want _ hbe]
    by_cases hz : v = 0
    · subst hz; rfl
    · obtain ⟨c, r, e, hc⟩ := be_head v (by omega)
      have hne : c ≠ 0 := by omega
      rw [e] at hl
      unfold enc; rw [e]; dsimp only
      by_cases h128 : 128 ≤ c
      · simp [wantU, h128, lead, hne, padOf]; simpa using hl
      · simp [wantU, h128, lead, hne, padOf]; simpa using hl
  · unfold enc; split
    · simp
    · rename_i c r e; rw [e] at hl; split <;> simp at hl ⊢ <;> omega
end Go.Proofs.Qxb6002407a
