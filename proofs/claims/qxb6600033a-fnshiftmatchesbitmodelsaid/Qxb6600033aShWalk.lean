/-
  THE WALKS of decimal.shift, ZZShift.
-/
import Derived.Test.Qxb6600033aRows
import Derived.WalkKit
import Derived.ProofKit
import Derived.ShutString
import Derived.ChangeOld
import Derived.Below
import Derived.WalkSpells
import Derived.WalkLawsBesides
import Derived.Outline
import Derived.Deep.QuietTactic
import Derived.BigQuiet
import Derived.Test.Qxb6600033aShPlain
import Derived.RegionTactic
import Derived.BigRegion
namespace Go.Proofs.Qxb6600033a
open Go.RowKit
set_option linter.unusedVariables false
set_option maxRecDepth 100000


theorem int_div_pow (a : Nat) (k : Nat) : (a : Int) / 2 ^ k = ((a / 2 ^ k : Nat) : Int) := by
  rw [Int.natCast_ediv, Int.natCast_pow]; rfl
theorem int_mul_pow (a : Nat) (k : Nat) : (a : Int) * 2 ^ k = ((a * 2 ^ k : Nat) : Int) := by
  rw [Int.natCast_mul, Int.natCast_pow]; rfl

def agg2 (F : Int) (ex ok : Bool) : Value := .tuple #[.agg #[.int .u64 F, .bool ex], .bool ok]

theorem sh_up_a (hi lo s : Nat) (w : World) (hs : s ≤ 9223372036854775807) (h : hi ≠ 0) :
    Calls Try.prog 42 #[.int .u64 hi, .int .u64 lo, .int .i64 s] w fun e w' => e = .returned (agg2 0 false false) ∧ Below w.heap.size w w' := by
  have h0 : ((hi : Int) != 0) = true := by simp; omega
  clear h
  go_enter Try.func42, Try.ntmps42
  go_wp2
  exact bodyPost_ret (v := agg2 0 false false) (by simp [results, Try.results42, go_sem, agg2]) rfl ⟨rfl, (Below.refl _ _).alloc (Nat.le_refl _) _⟩

theorem sh_up_b (lo s : Nat) (w : World) (hs : s ≤ 9223372036854775807) (h : 64 ≤ s) :
    Calls Try.prog 42 #[.int .u64 0, .int .u64 lo, .int .i64 s] w fun e w' => e = .returned (agg2 0 false false) ∧ Below w.heap.size w w' := by
  have h1 : (64 : Int) ≤ (s : Int) := by omega
  go_enter Try.func42, Try.ntmps42
  go_wp2
  exact bodyPost_ret (v := agg2 0 false false) (by simp [results, Try.results42, go_sem, agg2]) rfl ⟨rfl, (Below.refl _ _).alloc (Nat.le_refl _) _⟩

theorem sh_up_c (lo s : Nat) (w : World) (hs : s < 64) (h : lo / 2 ^ (64 - s) ≠ 0) :
    Calls Try.prog 42 #[.int .u64 0, .int .u64 lo, .int .i64 s] w fun e w' => e = .returned (agg2 0 false false) ∧ Below w.heap.size w w' := by
  have h1 : ((lo : Int) / 2 ^ (64 - s) != 0) = true := by rw [int_div_pow]; exact bne_iff_ne.2 (fun e => h (Int.natCast_eq_zero.1 e))
  have h2 : decide ((64 : Int) ≤ (s : Int)) = false := by simp; omega
  clear h
  go_enter Try.func42, Try.ntmps42
  go_wp2
  exact bodyPost_ret (v := agg2 0 false false) (by simp [results, Try.results42, go_sem, agg2]) rfl ⟨rfl, (Below.refl _ _).alloc (Nat.le_refl _) _⟩

theorem wrap_lt (n : Nat) (h : n < 2 ^ 64) : IntKind.u64.wrap (n : Int) = (n : Int) := by rw [IntKind.wrap_u64]; omega

theorem sh_up (lo s : Nat) (w : World) (hs : s < 64) (h : lo / 2 ^ (64 - s) = 0) (hlt : lo * 2 ^ s < 2 ^ 64) :
    Calls Try.prog 42 #[.int .u64 0, .int .u64 lo, .int .i64 s] w fun e w' => e = .returned (agg2 ((lo * 2 ^ s : Nat) : Int) true true) ∧ Below w.heap.size w w' := by
  have h1 : ((lo : Int) / 2 ^ (64 - s) != 0) = false := by rw [int_div_pow, h]; rfl
  have h2 : decide ((64 : Int) ≤ (s : Int)) = false := by simp; omega
  have HL : Hid (IntKind.u64.wrap ((lo : Int) * 2 ^ s) = ((lo * 2 ^ s : Nat) : Int)) := by show _ = _; rw [int_mul_pow, wrap_lt _ hlt]
  clear h hlt
  go_enter Try.func42, Try.ntmps42
  go_wp2
  refine bodyPost_ret (v := agg2 (IntKind.u64.wrap ((lo : Int) * 2 ^ s)) true true) (by simp [results, Try.results42, go_sem, agg2]) rfl ⟨by rw [HL.out], (Below.refl _ _).alloc (Nat.le_refl _) _⟩

theorem sh_far (hi lo : Nat) (s : Int) (w : World) (hs : s ≤ -128) (hs2 : -9223372036854775808 ≤ s) :
    Calls Try.prog 42 #[.int .u64 hi, .int .u64 lo, .int .i64 s] w fun e w' => e = .returned (agg2 0 false true) ∧ Below w.heap.size w w' := by
  have h1 : ¬ (0 : Int) ≤ s := by omega
  go_enter Try.func42, Try.ntmps42
  go_wp2
  exact bodyPost_ret (v := agg2 0 false true) (by simp [results, Try.results42, go_sem, agg2]) rfl ⟨rfl, (Below.refl _ _).alloc (Nat.le_refl _) _⟩

theorem sh_mid_no (hi lo r : Nat) (w : World) (hr : 1 ≤ r) (hs : r < 64) (h : hi / 2 ^ r ≠ 0) :
    Calls Try.prog 42 #[.int .u64 hi, .int .u64 lo, .int .i64 (-(r : Int))] w fun e w' => e = .returned (agg2 0 false false) ∧ Below w.heap.size w w' := by
  have h1 : ¬ (0 : Int) ≤ -(r : Int) := by omega
  have h2 : ¬ -(r : Int) ≤ -128 := by omega
  have h3 : ¬ -(r : Int) ≤ -64 := by omega
  have h4 : ((hi : Int) / 2 ^ r != 0) = true := by rw [int_div_pow]; exact bne_iff_ne.2 (fun e => h (Int.natCast_eq_zero.1 e))
  clear h
  go_enter Try.func42, Try.ntmps42
  go_wp2
  exact bodyPost_ret (v := agg2 0 false false) (by simp [results, Try.results42, go_sem, agg2]) rfl ⟨rfl, (Below.refl _ _).alloc (Nat.le_refl _) _⟩

theorem pow_lt64 {r : Nat} (hr : r < 64) : 2 ^ r < 2 ^ 64 := Nat.pow_lt_pow_right (by omega) hr
theorem and_mask (x r : Nat) (hx : x < 2 ^ 64) (hr : r < 64) : bits .and .u64 (x : Int) (IntKind.u64.wrap (IntKind.u64.wrap (2 ^ r) - 1)) = ((x % 2 ^ r : Nat) : Int) := by
  have h := pow_lt64 hr
  have hp := Nat.two_pow_pos r
  have e1 : (2 : Int) ^ r = ((2 ^ r : Nat) : Int) := by rw [Int.natCast_pow]; rfl
  rw [e1, wrap_lt _ h, show ((2 ^ r : Nat) : Int) - 1 = ((2 ^ r - 1 : Nat) : Int) from by omega, wrap_lt _ (by omega), u64_and_nat _ _ (by omega) (by omega), Nat.and_two_pow_sub_one_eq_mod]
theorem or_join (hi lo r : Nat) (hl : lo < 2 ^ 64) (hr : r < 64) (h : hi < 2 ^ r) : bits .or .u64 (IntKind.u64.wrap ((hi : Int) * 2 ^ (64 - r))) ((lo : Int) / 2 ^ r) = ((hi * 2 ^ (64 - r) ||| lo / 2 ^ r : Nat) : Int) := by
  have h1 : hi * 2 ^ (64 - r) < 2 ^ 64 := calc
    hi * 2 ^ (64 - r) < 2 ^ r * 2 ^ (64 - r) := Nat.mul_lt_mul_of_pos_right h (Nat.two_pow_pos _)
    _ = 2 ^ 64 := by rw [← Nat.pow_add, show r + (64 - r) = 64 from by omega]
  have h2 : lo / 2 ^ r < 2 ^ 64 := Nat.lt_of_le_of_lt (Nat.div_le_self _ _) hl
  rw [int_mul_pow, wrap_lt _ h1, int_div_pow, u64_or_nat _ _ (by omega) (by omega)]
theorem lt_of_div {a r : Nat} (h : a / 2 ^ r = 0) : a < 2 ^ r := by
  rcases Nat.lt_or_ge a (2 ^ r) with h' | h'
  · exact h'
  · exact absurd h (Nat.ne_of_gt (Nat.div_pos h' (Nat.two_pow_pos _)))
theorem beq_cast (a : Nat) : (((a : Nat) : Int) == 0) = (a == 0) := by
  rw [Bool.eq_iff_iff]; simp

set_option maxHeartbeats 1000000 in
theorem sh_mid (hi lo r : Nat) (w : World) (hr : 1 ≤ r) (hs : r < 64) (h : hi / 2 ^ r = 0) (hl : lo < 2 ^ 64) :
    Calls Try.prog 42 #[.int .u64 hi, .int .u64 lo, .int .i64 (-(r : Int))] w fun e w' => e = .returned (agg2 ((hi * 2 ^ (64 - r) ||| lo / 2 ^ r : Nat) : Int) (lo % 2 ^ r == 0) true) ∧ Below w.heap.size w w' := by
  have h1 : ¬ (0 : Int) ≤ -(r : Int) := by omega
  have h2 : ¬ -(r : Int) ≤ -128 := by omega
  have h3 : ¬ -(r : Int) ≤ -64 := by omega
  have h4 : ((hi : Int) / 2 ^ r != 0) = false := by rw [int_div_pow, h]; rfl
  have HO : Hid (bits .or .u64 (IntKind.u64.wrap ((hi : Int) * 2 ^ (64 - r))) ((lo : Int) / 2 ^ r) = ((hi * 2 ^ (64 - r) ||| lo / 2 ^ r : Nat) : Int)) := or_join hi lo r hl hs (lt_of_div h)
  have HM : Hid ((bits .and .u64 (lo : Int) (IntKind.u64.wrap (IntKind.u64.wrap (2 ^ r) - 1)) == 0) = (lo % 2 ^ r == 0)) := by show _ = _; rw [and_mask lo r hl hs, beq_cast]
  clear h hl
  go_enter Try.func42, Try.ntmps42
  go_wp2
  go_region
  all_goals
    go_wp2
    refine bodyPost_ret (v := agg2 (bits .or .u64 (IntKind.u64.wrap ((hi : Int) * 2 ^ (64 - r))) ((lo : Int) / 2 ^ r)) (bits .and .u64 (lo : Int) (IntKind.u64.wrap (IntKind.u64.wrap (2 ^ r) - 1)) == 0) true) (by simp [results, Try.results42, go_sem, agg2]) rfl ⟨by rw [HO.out, HM.out], ((Below.refl _ _).alloc (Nat.le_refl _) _).drew⟩

set_option maxHeartbeats 1000000 in
theorem sh_high_z (hi r : Nat) (w : World) (hs : r < 64) (hh : hi < 2 ^ 64) :
    Calls Try.prog 42 #[.int .u64 hi, .int .u64 0, .int .i64 (-(64 + (r : Int)))] w fun e w' => e = .returned (agg2 ((hi / 2 ^ r : Nat) : Int) (hi % 2 ^ r == 0) true) ∧ Below w.heap.size w w' := by
  have h1 : ¬ (0 : Int) ≤ -(64 + (r : Int)) := by omega
  have h2 : ¬ -(64 + (r : Int)) ≤ -128 := by omega
  have h3 : -(64 + (r : Int)) ≤ -64 := by omega
  have HM : Hid ((bits .and .u64 (hi : Int) (IntKind.u64.wrap (IntKind.u64.wrap (2 ^ r) - 1)) == 0) = (hi % 2 ^ r == 0)) := by show _ = _; rw [and_mask hi r hh hs, beq_cast]
  clear hh
  go_enter Try.func42, Try.ntmps42
  go_wp2
  go_region
  all_goals
    go_wp2
    refine bodyPost_ret (v := agg2 ((hi : Int) / 2 ^ r) (bits .and .u64 (hi : Int) (IntKind.u64.wrap (IntKind.u64.wrap (2 ^ r) - 1)) == 0) true) (by simp [results, Try.results42, go_sem, agg2]) rfl ⟨by rw [HM.out, int_div_pow], ((Below.refl _ _).alloc (Nat.le_refl _) _).drew⟩

set_option maxHeartbeats 1000000 in
theorem sh_high_nz (hi lo r : Nat) (w : World) (hs : r < 64) (h : lo ≠ 0) :
    Calls Try.prog 42 #[.int .u64 hi, .int .u64 lo, .int .i64 (-(64 + (r : Int)))] w fun e w' => e = .returned (agg2 ((hi / 2 ^ r : Nat) : Int) false true) ∧ Below w.heap.size w w' := by
  have h1 : ¬ (0 : Int) ≤ -(64 + (r : Int)) := by omega
  have h2 : ¬ -(64 + (r : Int)) ≤ -128 := by omega
  have h3 : -(64 + (r : Int)) ≤ -64 := by omega
  have h4 : ((lo : Int) == 0) = false := by simp; omega
  clear h
  go_enter Try.func42, Try.ntmps42
  go_wp2
  go_region
  all_goals
    go_wp2
    refine bodyPost_ret (v := agg2 ((hi : Int) / 2 ^ r) false true) (by simp [results, Try.results42, go_sem, agg2]) rfl ⟨by rw [int_div_pow], ((Below.refl _ _).alloc (Nat.le_refl _) _).drew⟩

/-- The shift as the model takes it. -/
def clamp (s : Int) : Int := if 200 < s then 200 else if s < -200 then -200 else s

theorem sh_any (hi lo : Nat) (s : Int) (w : World) (hh : hi < 2 ^ 64) (hl : lo < 2 ^ 64) (h0 : ¬ (hi = 0 ∧ lo = 0)) (hs1 : -9223372036854775808 ≤ s) (hs2 : s ≤ 9223372036854775807) :
    Calls Try.prog 42 #[.int .u64 hi, .int .u64 lo, .int .i64 s] w fun e w' => ∃ F : Nat, ∃ ex ok : Bool, e = .returned (agg2 F ex ok) ∧ Meets (big hi lo) (clamp s) F ex ok ∧ Below w.heap.size w w' := by
  by_cases hs : 0 ≤ s
  · obtain ⟨n, rfl⟩ := Int.eq_ofNat_of_zero_le hs
    have hc : clamp (n : Int) = if 200 < (n : Int) then 200 else (n : Int) := by
      unfold clamp; split
      · rfl
      · rw [if_neg (by omega)]
    by_cases hhi : hi = 0
    · subst hhi
      by_cases h64 : 64 ≤ n
      · refine (sh_up_b lo n w (by omega) h64).mono ?_
        rintro e w' ⟨rfl, hb⟩
        exact ⟨0, false, false, rfl, meets_up_no 0 lo n _ hh hl h0 hs hc (.inr (.inl (by omega))), hb⟩
      · by_cases hd : lo / 2 ^ (64 - n) = 0
        · have hm := meets_up lo n hl (by omega) hd
          refine (sh_up lo n w (by omega) hd hm.2).mono ?_
          rintro e w' ⟨rfl, hb⟩
          refine ⟨_, true, true, rfl, ?_, hb⟩
          rw [hc, if_neg (by omega)]; exact hm.1
        · refine (sh_up_c lo n w (by omega) hd).mono ?_
          rintro e w' ⟨rfl, hb⟩
          exact ⟨0, false, false, rfl, meets_up_no 0 lo n _ hh hl h0 hs hc (.inr (.inr ⟨by omega, hd⟩)), hb⟩
    · refine (sh_up_a hi lo n w (by omega) hhi).mono ?_
      rintro e w' ⟨rfl, hb⟩
      exact ⟨0, false, false, rfl, meets_up_no hi lo n _ hh hl h0 hs hc (.inl hhi), hb⟩
  · by_cases hf : s ≤ -128
    · refine (sh_far hi lo s w hf hs1).mono ?_
      rintro e w' ⟨rfl, hb⟩
      refine ⟨0, false, true, rfl, meets_far hi lo _ hh hl h0 ?_, hb⟩
      unfold clamp; rw [if_neg (by omega)]; split <;> omega
    · have hc : clamp s = s := by unfold clamp; rw [if_neg (by omega), if_neg (by omega)]
      rw [hc]
      by_cases hg : s ≤ -64
      · obtain ⟨r, hr⟩ : ∃ r : Nat, s = -(64 + (r : Int)) := ⟨(-s - 64).toNat, by omega⟩
        subst hr
        have hm := meets_high hi lo r hh hl (by omega)
        by_cases hlo : lo = 0
        · subst hlo
          refine (sh_high_z hi r w (by omega) hh).mono ?_
          rintro e w' ⟨rfl, hb⟩
          exact ⟨_, _, true, rfl, by simpa using hm, hb⟩
        · refine (sh_high_nz hi lo r w (by omega) hlo).mono ?_
          rintro e w' ⟨rfl, hb⟩
          exact ⟨_, _, true, rfl, by rw [show (lo == 0) = false from by simpa using hlo, Bool.false_and] at hm; exact hm, hb⟩
      · obtain ⟨r, hr⟩ : ∃ r : Nat, s = -(r : Int) := ⟨(-s).toNat, by omega⟩
        subst hr
        by_cases hd : hi / 2 ^ r = 0
        · refine (sh_mid hi lo r w (by omega) (by omega) hd hl).mono ?_
          rintro e w' ⟨rfl, hb⟩
          exact ⟨_, _, true, rfl, meets_mid hi lo r hh hl (by omega) hd, hb⟩
        · refine (sh_mid_no hi lo r w (by omega) (by omega) hd).mono ?_
          rintro e w' ⟨rfl, hb⟩
          exact ⟨0, _, _, rfl, meets_mid_no hi lo r hh hl hd, hb⟩

set_option maxHeartbeats 1000000 in
theorem zz_any (hi lo : Nat) (s : Int) (w : World) (hh : hi < 2 ^ 64) (hl : lo < 2 ^ 64) (h0 : ¬ (hi = 0 ∧ lo = 0)) (hs1 : -9223372036854775808 ≤ s) (hs2 : s ≤ 9223372036854775807) :
    Calls Try.prog 33 #[.int .u64 hi, .int .u64 lo, .int .i64 s] w fun e w' => ∃ F : Nat, ∃ ex ok : Bool, e = .returned (.tuple #[.int .u64 F, .bool ex, .bool ok]) ∧ Meets (big hi lo) (clamp s) F ex ok ∧ Below w.heap.size w w' := by
  have H : Hid (hi < 2 ^ 64 ∧ lo < 2 ^ 64 ∧ ¬ (hi = 0 ∧ lo = 0)) := ⟨hh, hl, h0⟩
  clear hh hl h0
  go_enter Try.func33, Try.ntmps33
  go_wp2_with fail
  refine (sh_any hi lo s _ H.out.1 H.out.2.1 H.out.2.2 hs1 hs2).mono ?_
  rintro e w1 ⟨F, ex, ok, rfl, hm, hb⟩
  have HM : Hid (Meets (big hi lo) (clamp s) F ex ok ∧ Below w.heap.size w w1) := ⟨hm, hb⟩
  clear hm hb
  unfold agg2
  go_wp2
  go_quiet (fail)
  go_wp2
  go_ret3
  exact ⟨F, ex, ok, rfl, HM.out.1, below_drewN (HM.out.2.alloc HM.out.2.size _) _⟩
end Go.Proofs.Qxb6600033a
