/-
  THE WALK of FnShiftMatchesBitModel.
-/
import Derived.Test.Qxb6600033aShWalk
namespace Go.Proofs.Qxb6600033a
open Go.RowKit
set_option linter.unusedVariables false
set_option maxRecDepth 100000

theorem bit_and (x k : Nat) (hx : x < 2 ^ 64) : bits .and .u64 ((x : Int) / 2 ^ k) 1 = if x.testBit k = true then 1 else 0 := by
  have h : x / 2 ^ k < 2 ^ 64 := Nat.lt_of_le_of_lt (Nat.div_le_self _ _) hx
  rw [int_div_pow, show (1 : Int) = ((1 : Nat) : Int) from rfl, u64_and_nat _ _ (by omega) (by omega), nat_mask1]
  have e : x.testBit k = ((x / 2 ^ k) % 2 == 1) := by
    rw [Nat.testBit_eq_decide_div_mod_eq, Bool.eq_iff_iff]; simp
  rw [e]
  rcases Nat.mod_two_eq_zero_or_one (x / 2 ^ k) with h | h <;> simp [h]

section
variable {hi lo k : Nat}
theorem lo_no (H : hi < 2 ^ 64 ∧ lo < 2 ^ 64 ∧ ¬ (hi = 0 ∧ lo = 0)) (hk : k < 64) (h : (bits .and .u64 ((lo : Int) / 2 ^ k) 1 == 0) = true) : (big hi lo).testBit k = false := by
  rw [bit_and lo k H.2.1] at h
  rw [big_bit hi lo k H.2.1, if_pos hk]
  cases e : lo.testBit k
  · rfl
  · simp [e] at h
theorem lo_yes (H : hi < 2 ^ 64 ∧ lo < 2 ^ 64 ∧ ¬ (hi = 0 ∧ lo = 0)) (hk : k < 64) (h : (bits .and .u64 ((lo : Int) / 2 ^ k) 1 == 0) = false) : (big hi lo).testBit k = true := by
  rw [bit_and lo k H.2.1] at h
  rw [big_bit hi lo k H.2.1, if_pos hk]
  cases e : lo.testBit k
  · simp [e] at h
  · rfl
theorem hi_no (H : hi < 2 ^ 64 ∧ lo < 2 ^ 64 ∧ ¬ (hi = 0 ∧ lo = 0)) (hk : k < 64) (h : (bits .and .u64 ((hi : Int) / 2 ^ k) 1 == 0) = true) : (big hi lo).testBit (k + 64) = false := by
  rw [bit_and hi k H.1] at h
  rw [big_bit hi lo _ H.2.1, if_neg (by omega), show k + 64 - 64 = k from by omega]
  cases e : hi.testBit k
  · rfl
  · simp [e] at h
theorem hi_yes (H : hi < 2 ^ 64 ∧ lo < 2 ^ 64 ∧ ¬ (hi = 0 ∧ lo = 0)) (hk : k < 64) (h : (bits .and .u64 ((hi : Int) / 2 ^ k) 1 == 0) = false) : (big hi lo).testBit (k + 64) = true := by
  rw [bit_and hi k H.1] at h
  rw [big_bit hi lo _ H.2.1, if_neg (by omega), show k + 64 - 64 = k from by omega]
  cases e : hi.testBit k
  · simp [e] at h
  · rfl
end

section
variable {V k : Nat} {sm : Int}
theorem mf_same (hb : V.testBit k = false) : mfB V sm (k + 1) = mfB V sm k := by simp [mfB, hb]
theorem over_same (hb : V.testBit k = false) : overB V sm (k + 1) = overB V sm k := by simp [overB, hb]
theorem lost_same (hb : V.testBit k = false) : lostB V sm (k + 1) = lostB V sm k := by simp [lostB, hb]
theorem mf_out (h : (k : Int) + sm < 0 ∨ 64 ≤ (k : Int) + sm) : mfB V sm (k + 1) = mfB V sm k := by
  simp only [mfB]; rw [if_neg (by omega)]
theorem over_less (h : (k : Int) + sm < 64) : overB V sm (k + 1) = overB V sm k := by
  simp only [overB]; rw [show decide (64 ≤ (k : Int) + sm) = false from by simp; omega]; simp
theorem lost_less (h : 0 ≤ (k : Int) + sm) : lostB V sm (k + 1) = lostB V sm k := by
  simp only [lostB]; rw [show decide ((k : Int) + sm < 0) = false from by simp; omega]; simp
theorem over_true (hb : V.testBit k = true) (h : 64 ≤ (k : Int) + sm) : overB V sm (k + 1) = true := by
  simp only [overB]; rw [hb, show decide (64 ≤ (k : Int) + sm) = true from by simp; omega]; simp
theorem lost_true (hb : V.testBit k = true) (h : (k : Int) + sm < 0) : lostB V sm (k + 1) = true := by
  simp only [lostB]; rw [hb, show decide ((k : Int) + sm < 0) = true from by simp; omega]; simp
theorem mf_in {t : Int} (hb : V.testBit k = true) (ht : t = (k : Int) + sm) (h : 0 ≤ t ∧ t < 64) : ((mfB V sm (k + 1) : Nat) : Int) = bits .or .u64 (mfB V sm k : Int) (IntKind.u64.wrap (2 ^ t.toNat)) := by
  subst ht
  have hp : 2 ^ ((k : Int) + sm).toNat < 2 ^ 64 := pow_lt64 (by omega)
  have e1 : (2 : Int) ^ ((k : Int) + sm).toNat = ((2 ^ ((k : Int) + sm).toNat : Nat) : Int) := by rw [Int.natCast_pow]; rfl
  have hm := mf_lt V sm k
  rw [e1, wrap_lt _ hp, u64_or_nat _ _ (by omega) (by omega)]
  simp only [mfB]
  rw [if_pos ⟨hb, h⟩]
end

set_option maxHeartbeats 4000000 in
theorem sh_in (hi lo : Nat) (s : Int) (w : World) (hh : hi < 18446744073709551616) (hl : lo < 18446744073709551616) (h0 : ¬ (hi = 0 ∧ lo = 0)) (hs1 : -200 ≤ s) (hs2 : s ≤ 200) :
    Calls Try.prog 9 #[.int .u64 hi, .int .u64 lo, .int .i64 s] w fun e w' => e = .returned (.bool true) ∧ Below w.heap.size w w' := by
  have HH : Hid (hi < 2 ^ 64 ∧ lo < 2 ^ 64 ∧ ¬ (hi = 0 ∧ lo = 0)) := ⟨by omega, by omega, h0⟩
  have hz : ((hi : Int) == 0) = false ∨ ((hi : Int) == 0) = true ∧ ((lo : Int) == 0) = false := by
    by_cases e : hi = 0
    · right; simp; omega
    · left; simp; omega
  clear hh hl h0
  rcases hz with hz | ⟨hz, hz2⟩
  all_goals
    go_enter Try.func9, Try.ntmps9
    go_wp2_with fail
    refine (zz_any hi lo s _ HH.out.1 HH.out.2.1 HH.out.2.2 (by omega) (by omega)).mono ?_
    rintro e w1 ⟨F, ex, ok, rfl, hm, hb⟩
    have HM : Hid (Meets (big hi lo) s F ex ok ∧ Below w.heap.size w w1) := ⟨by rw [show clamp s = s from by unfold clamp; rw [if_neg (by omega), if_neg (by omega)]] at hm; exact hm, hb⟩
    clear hm hb
    go_wp2
    go_loop [11, 12, 13, 14] (fun m o l i => ∃ k : Nat, k ≤ 128 ∧ i = .int .i64 k ∧ m = .int .u64 (mfB (big hi lo) s k) ∧ o = .bool (overB (big hi lo) s k) ∧ l = .bool (lostB (big hi lo) s k)) (fun _ _ _ i => 128 - (intOf i).toNat)
    case atStart => exact ⟨0, by omega, rfl, rfl, rfl, rfl⟩
    case round =>
      obtain ⟨k, hk, rfl, rfl, rfl, rfl⟩ := hrel
      by_cases hk128 : k < 128
      · by_cases h64 : k < 64
        · go_wp2
          · have hb : (big hi lo).testBit k = false := lo_no HH.out ‹_› ‹_›
            go_round
            case rel => exact ⟨k + 1, by omega, by go_num, by rw [mf_same (k := k) hb], by rw [over_same (k := k) hb], by rw [lost_same (k := k) hb]⟩
            case measure => simp [intOf]; omega
          · have hb : (big hi lo).testBit k = true := lo_yes HH.out ‹_› ‹_›
            go_round
            case rel => exact ⟨k + 1, by omega, by go_num, by rw [mf_out (k := k) (.inl (by omega))], by rw [over_less (k := k) (by omega)], by rw [lost_true (k := k) hb (by omega)]⟩
            case measure => simp [intOf]; omega
          · have hb : (big hi lo).testBit k = true := lo_yes HH.out ‹_› ‹_›
            go_round
            case rel => exact ⟨k + 1, by omega, by go_num, by rw [mf_out (k := k) (.inr (by omega))], by rw [over_true (k := k) hb (by omega)], by rw [lost_less (k := k) (by omega)]⟩
            case measure => simp [intOf]; omega
          · have hb : (big hi lo).testBit k = true := lo_yes HH.out ‹_› ‹_›
            go_round
            case rel => exact ⟨k + 1, by omega, by go_num, by rw [mf_in (k := k) (t := (k : Int) + s) hb (by omega) (by omega)], by rw [over_less (k := k) (by omega)], by rw [lost_less (k := k) (by omega)]⟩
            case measure => simp [intOf]; omega
        · obtain ⟨j, rfl⟩ : ∃ j, k = j + 64 := ⟨k - 64, by omega⟩
          have hj : j < 64 := by omega
          go_wp2
          · have hb : (big hi lo).testBit (j + 64) = false := hi_no HH.out hj ‹_›
            go_round
            case rel => exact ⟨j + 64 + 1, by omega, by go_num, by rw [mf_same (k := (j + 64)) hb], by rw [over_same (k := (j + 64)) hb], by rw [lost_same (k := (j + 64)) hb]⟩
            case measure => simp [intOf]; omega
          · have hb : (big hi lo).testBit (j + 64) = true := hi_yes HH.out hj ‹_›
            go_round
            case rel => exact ⟨j + 64 + 1, by omega, by go_num, by rw [mf_out (k := (j + 64)) (.inl (by omega))], by rw [over_less (k := (j + 64)) (by omega)], by rw [lost_true (k := (j + 64)) hb (by omega)]⟩
            case measure => simp [intOf]; omega
          · have hb : (big hi lo).testBit (j + 64) = true := hi_yes HH.out hj ‹_›
            go_round
            case rel => exact ⟨j + 64 + 1, by omega, by go_num, by rw [mf_out (k := (j + 64)) (.inr (by omega))], by rw [over_true (k := (j + 64)) hb (by omega)], by rw [lost_less (k := (j + 64)) (by omega)]⟩
            case measure => simp [intOf]; omega
          · have hb : (big hi lo).testBit (j + 64) = true := hi_yes HH.out hj ‹_›
            go_round
            case rel => exact ⟨j + 64 + 1, by omega, by go_num, by rw [mf_in (k := (j + 64)) (t := ((j : Int) + 64) + s) hb (by omega) (by omega)], by rw [over_less (k := (j + 64)) (by omega)], by rw [lost_less (k := (j + 64)) (by omega)]⟩
            case measure => simp [intOf]; omega
      · obtain rfl : k = 128 := by omega
        have hm := HM.out.1
        cases ho : overB (big hi lo) s 128
        · obtain ⟨hok, hF, hex⟩ := hm.2 ho
          subst hok
          subst hF
          subst hex
          clear hm
          cases hl : lostB (big hi lo) s 128
          all_goals
            go_wp2
            go_ret
            exact ⟨rfl, HM.out.2⟩
        · have hok := hm.1 ho
          subst hok
          clear hm
          go_wp2
          go_ret
          exact ⟨rfl, HM.out.2⟩

set_option maxHeartbeats 4000000 in
theorem sh_over (hi lo : Nat) (s : Int) (w : World) (hh : hi < 18446744073709551616) (hl : lo < 18446744073709551616) (h0 : ¬ (hi = 0 ∧ lo = 0)) (hs1 : 200 < s) (hs2 : s ≤ 9223372036854775807) :
    Calls Try.prog 9 #[.int .u64 hi, .int .u64 lo, .int .i64 s] w fun e w' => e = .returned (.bool true) ∧ Below w.heap.size w w' := by
  have HH : Hid (hi < 2 ^ 64 ∧ lo < 2 ^ 64 ∧ ¬ (hi = 0 ∧ lo = 0)) := ⟨by omega, by omega, h0⟩
  have hz : ((hi : Int) == 0) = false ∨ ((hi : Int) == 0) = true ∧ ((lo : Int) == 0) = false := by
    by_cases e : hi = 0
    · right; simp; omega
    · left; simp; omega
  clear hh hl h0
  rcases hz with hz | ⟨hz, hz2⟩
  all_goals
    go_enter Try.func9, Try.ntmps9
    go_wp2_with fail
    refine (zz_any hi lo s _ HH.out.1 HH.out.2.1 HH.out.2.2 (by omega) (by omega)).mono ?_
    rintro e w1 ⟨F, ex, ok, rfl, hm, hb⟩
    have HM : Hid (Meets (big hi lo) 200 F ex ok ∧ Below w.heap.size w w1) := ⟨by rw [show clamp s = 200 from by unfold clamp; rw [if_pos (by omega)]] at hm; exact hm, hb⟩
    clear hm hb
    go_wp2
    go_loop [11, 12, 13, 14] (fun m o l i => ∃ k : Nat, k ≤ 128 ∧ i = .int .i64 k ∧ m = .int .u64 (mfB (big hi lo) 200 k) ∧ o = .bool (overB (big hi lo) 200 k) ∧ l = .bool (lostB (big hi lo) 200 k)) (fun _ _ _ i => 128 - (intOf i).toNat)
    case atStart => exact ⟨0, by omega, rfl, rfl, rfl, rfl⟩
    case round =>
      obtain ⟨k, hk, rfl, rfl, rfl, rfl⟩ := hrel
      by_cases hk128 : k < 128
      · by_cases h64 : k < 64
        · go_wp2
          · have hb : (big hi lo).testBit k = false := lo_no HH.out ‹_› ‹_›
            go_round
            case rel => exact ⟨k + 1, by omega, by go_num, by rw [mf_same (k := k) hb], by rw [over_same (k := k) hb], by rw [lost_same (k := k) hb]⟩
            case measure => simp [intOf]; omega
          · have hb : (big hi lo).testBit k = true := lo_yes HH.out ‹_› ‹_›
            go_round
            case rel => exact ⟨k + 1, by omega, by go_num, by rw [mf_out (k := k) (.inr (by omega))], by rw [over_true (k := k) hb (by omega)], by rw [lost_less (k := k) (by omega)]⟩
            case measure => simp [intOf]; omega
        · obtain ⟨j, rfl⟩ : ∃ j, k = j + 64 := ⟨k - 64, by omega⟩
          have hj : j < 64 := by omega
          go_wp2
          · have hb : (big hi lo).testBit (j + 64) = false := hi_no HH.out hj ‹_›
            go_round
            case rel => exact ⟨j + 64 + 1, by omega, by go_num, by rw [mf_same (k := (j + 64)) hb], by rw [over_same (k := (j + 64)) hb], by rw [lost_same (k := (j + 64)) hb]⟩
            case measure => simp [intOf]; omega
          · have hb : (big hi lo).testBit (j + 64) = true := hi_yes HH.out hj ‹_›
            go_round
            case rel => exact ⟨j + 64 + 1, by omega, by go_num, by rw [mf_out (k := (j + 64)) (.inr (by omega))], by rw [over_true (k := (j + 64)) hb (by omega)], by rw [lost_less (k := (j + 64)) (by omega)]⟩
            case measure => simp [intOf]; omega
      · obtain rfl : k = 128 := by omega
        have hm := HM.out.1
        cases ho : overB (big hi lo) 200 128
        · obtain ⟨hok, hF, hex⟩ := hm.2 ho
          subst hok
          subst hF
          subst hex
          clear hm
          cases hl : lostB (big hi lo) 200 128
          all_goals
            go_wp2
            go_ret
            exact ⟨rfl, HM.out.2⟩
        · have hok := hm.1 ho
          subst hok
          clear hm
          go_wp2
          go_ret
          exact ⟨rfl, HM.out.2⟩

set_option maxHeartbeats 4000000 in
theorem sh_under (hi lo : Nat) (s : Int) (w : World) (hh : hi < 18446744073709551616) (hl : lo < 18446744073709551616) (h0 : ¬ (hi = 0 ∧ lo = 0)) (hs1 : s < -200) (hs2 : -9223372036854775808 ≤ s) :
    Calls Try.prog 9 #[.int .u64 hi, .int .u64 lo, .int .i64 s] w fun e w' => e = .returned (.bool true) ∧ Below w.heap.size w w' := by
  have HH : Hid (hi < 2 ^ 64 ∧ lo < 2 ^ 64 ∧ ¬ (hi = 0 ∧ lo = 0)) := ⟨by omega, by omega, h0⟩
  have hz : ((hi : Int) == 0) = false ∨ ((hi : Int) == 0) = true ∧ ((lo : Int) == 0) = false := by
    by_cases e : hi = 0
    · right; simp; omega
    · left; simp; omega
  clear hh hl h0
  rcases hz with hz | ⟨hz, hz2⟩
  all_goals
    go_enter Try.func9, Try.ntmps9
    go_wp2_with fail
    refine (zz_any hi lo s _ HH.out.1 HH.out.2.1 HH.out.2.2 (by omega) (by omega)).mono ?_
    rintro e w1 ⟨F, ex, ok, rfl, hm, hb⟩
    have HM : Hid (Meets (big hi lo) (-200) F ex ok ∧ Below w.heap.size w w1) := ⟨by rw [show clamp s = (-200) from by unfold clamp; rw [if_neg (by omega), if_pos (by omega)]] at hm; exact hm, hb⟩
    clear hm hb
    go_wp2
    go_loop [11, 12, 13, 14] (fun m o l i => ∃ k : Nat, k ≤ 128 ∧ i = .int .i64 k ∧ m = .int .u64 (mfB (big hi lo) (-200) k) ∧ o = .bool (overB (big hi lo) (-200) k) ∧ l = .bool (lostB (big hi lo) (-200) k)) (fun _ _ _ i => 128 - (intOf i).toNat)
    case atStart => exact ⟨0, by omega, rfl, rfl, rfl, rfl⟩
    case round =>
      obtain ⟨k, hk, rfl, rfl, rfl, rfl⟩ := hrel
      by_cases hk128 : k < 128
      · by_cases h64 : k < 64
        · go_wp2
          · have hb : (big hi lo).testBit k = false := lo_no HH.out ‹_› ‹_›
            go_round
            case rel => exact ⟨k + 1, by omega, by go_num, by rw [mf_same (k := k) hb], by rw [over_same (k := k) hb], by rw [lost_same (k := k) hb]⟩
            case measure => simp [intOf]; omega
          · have hb : (big hi lo).testBit k = true := lo_yes HH.out ‹_› ‹_›
            go_round
            case rel => exact ⟨k + 1, by omega, by go_num, by rw [mf_out (k := k) (.inl (by omega))], by rw [over_less (k := k) (by omega)], by rw [lost_true (k := k) hb (by omega)]⟩
            case measure => simp [intOf]; omega
        · obtain ⟨j, rfl⟩ : ∃ j, k = j + 64 := ⟨k - 64, by omega⟩
          have hj : j < 64 := by omega
          go_wp2
          · have hb : (big hi lo).testBit (j + 64) = false := hi_no HH.out hj ‹_›
            go_round
            case rel => exact ⟨j + 64 + 1, by omega, by go_num, by rw [mf_same (k := (j + 64)) hb], by rw [over_same (k := (j + 64)) hb], by rw [lost_same (k := (j + 64)) hb]⟩
            case measure => simp [intOf]; omega
          · have hb : (big hi lo).testBit (j + 64) = true := hi_yes HH.out hj ‹_›
            go_round
            case rel => exact ⟨j + 64 + 1, by omega, by go_num, by rw [mf_out (k := (j + 64)) (.inl (by omega))], by rw [over_less (k := (j + 64)) (by omega)], by rw [lost_true (k := (j + 64)) hb (by omega)]⟩
            case measure => simp [intOf]; omega
      · obtain rfl : k = 128 := by omega
        have hm := HM.out.1
        cases ho : overB (big hi lo) (-200) 128
        · obtain ⟨hok, hF, hex⟩ := hm.2 ho
          subst hok
          subst hF
          subst hex
          clear hm
          cases hl : lostB (big hi lo) (-200) 128
          all_goals
            go_wp2
            go_ret
            exact ⟨rfl, HM.out.2⟩
        · have hok := hm.1 ho
          subst hok
          clear hm
          go_wp2
          go_ret
          exact ⟨rfl, HM.out.2⟩


theorem sh_zero (s : Int) (w : World) :
    Calls Try.prog 9 #[.int .u64 0, .int .u64 0, .int .i64 s] w fun e w' => e = .returned (.bool true) ∧ Below w.heap.size w w' := by
  go_enter Try.func9, Try.ntmps9
  go_wp2
  go_ret
  exact ⟨rfl, Below.refl _ _⟩

theorem sh_law (hi lo s : Int) (w : World) (hh : 0 ≤ hi ∧ hi ≤ 18446744073709551615) (hl : 0 ≤ lo ∧ lo ≤ 18446744073709551615) (hs : -9223372036854775808 ≤ s ∧ s ≤ 9223372036854775807) :
    Calls Try.prog 9 #[.int .u64 hi, .int .u64 lo, .int .i64 s] w fun e w' => e = .returned (.bool true) ∧ Below w.heap.size w w' := by
  obtain ⟨a, rfl⟩ := Int.eq_ofNat_of_zero_le hh.1
  obtain ⟨b, rfl⟩ := Int.eq_ofNat_of_zero_le hl.1
  by_cases h0 : a = 0 ∧ b = 0
  · obtain ⟨rfl, rfl⟩ := h0
    exact sh_zero s w
  · by_cases h1 : 200 < s
    · exact sh_over a b s w (by omega) (by omega) h0 h1 hs.2
    · by_cases h2 : s < -200
      · exact sh_under a b s w (by omega) (by omega) h0 h2 hs.1
      · exact sh_in a b s w (by omega) (by omega) h0 (by omega) (by omega)
end Go.Proofs.Qxb6600033a
