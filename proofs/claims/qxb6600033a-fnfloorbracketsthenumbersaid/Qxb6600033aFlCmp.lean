/-
  THE WALKS of zzB1Sgn, zzB1CmpMag, zzB1CmpDec, zzB1Pow10, zzBytes of floor's law.
-/
import Derived.Test.Qxb6600033aFlPlain
namespace Go.Proofs.Qxb6600033a
open Go.RowKit
set_option linter.unusedVariables false
set_option maxRecDepth 100000

theorem cmp_any (a b : ByteArray) (w : World) (hd1 : IsDig (nums a)) (hd2 : IsDig (nums b)) (h1 : a.size ≤ 65536) (h2 : b.size ≤ 65536) :
    Calls Try.prog 22 #[.string a, .string b] w fun e w' => e = .returned (.int .i64 (cmpV (nums a) (nums b) (max (nums a).length (nums b).length))) ∧ w' = w := by
  rw [nums_length, nums_length]
  rcases Nat.lt_or_ge a.size b.size with h | h
  · rw [Nat.max_eq_right (by omega)]; exact cmp_gt a b w hd1 hd2 h h2
  · rw [Nat.max_eq_left h]; exact cmp_le a b w hd1 hd2 h h1

theorem sgn_walk (neg : Bool) (s : ByteArray) (w : World) (hs : s.size ≤ 65536) :
    Calls Try.prog 37 #[.bool neg, .string s] w fun e w' => e = .returned (.int .i64 (sgn neg (nums s))) ∧ w' = w := by
  have HL : Hid ((nums s).length = s.size) := nums_length s
  by_cases h0 : s.size = 0
  · have h0' : ((s.size : Int) == 0) = true := beq_iff_eq.2 (by omega)
    have HS : Hid (sgn neg (nums s) = 0) := by show _ = _; unfold sgn; rw [HL.out, if_pos h0]
    clear h0
    go_enter Try.func37, Try.ntmps37
    go_wp2
    go_ret
    exact ⟨ret_int HS.out.symm, rfl⟩
  · have h0' : ((s.size : Int) == 0) = false := beq_eq_false_iff_ne.2 (by omega)
    have HS : Hid (sgn neg (nums s) = if neg then -1 else 1) := by show _ = _; unfold sgn; rw [HL.out, if_neg h0]
    clear h0
    cases neg with
    | false =>
      go_enter Try.func37, Try.ntmps37
      go_wp2
      go_ret
      exact ⟨ret_int HS.out.symm, rfl⟩
    | true =>
      go_enter Try.func37, Try.ntmps37
      go_wp2
      go_ret
      exact ⟨ret_int HS.out.symm, rfl⟩

set_option maxHeartbeats 2000000 in
theorem cmp_mag (a b : ByteArray) (ap bp : Int) (w : World) (hd1 : IsDig (nums a)) (hd2 : IsDig (nums b)) (h1 : a.size ≤ 65536) (h2 : b.size ≤ 65536) :
    Calls Try.prog 28 #[.string a, .int .i64 ap, .string b, .int .i64 bp] w fun e w' => e = .returned (.int .i64 (cmpMag (nums a) ap (nums b) bp)) ∧ w' = w := by
  have HL : Hid ((nums a).length = a.size ∧ (nums b).length = b.size) := ⟨nums_length a, nums_length b⟩
  have HD : Hid (IsDig (nums a) ∧ IsDig (nums b)) := ⟨hd1, hd2⟩
  clear hd1 hd2
  obtain ⟨r, HS⟩ : ∃ r, Hid (cmpMag (nums a) ap (nums b) bp = r) := ⟨_, rfl⟩
  have hS := HS.out
  unfold cmpMag at hS
  rw [HL.out.1, HL.out.2] at hS
  by_cases ha : a.size = 0
  · have ha' : ((a.size : Int) == 0) = true := beq_iff_eq.2 (by omega)
    by_cases hb : b.size = 0
    · have hb' : ((b.size : Int) == 0) = true := beq_iff_eq.2 (by omega)
      rw [if_pos ⟨ha, hb⟩] at hS
      subst hS
      clear ha hb
      go_enter Try.func28, Try.ntmps28
      go_wp2
      go_ret
      exact ⟨ret_int HS.out.symm, rfl⟩
    · have hb' : ((b.size : Int) == 0) = false := beq_eq_false_iff_ne.2 (by omega)
      rw [if_neg (by omega), if_pos ha] at hS
      subst hS
      clear ha hb
      go_enter Try.func28, Try.ntmps28
      go_wp2
      go_ret
      exact ⟨ret_int HS.out.symm, rfl⟩
  · have ha' : ((a.size : Int) == 0) = false := beq_eq_false_iff_ne.2 (by omega)
    rw [if_neg (by omega), if_neg ha] at hS
    by_cases hb : b.size = 0
    · have hb' : ((b.size : Int) == 0) = true := beq_iff_eq.2 (by omega)
      rw [if_pos hb] at hS
      subst hS
      clear ha hb
      go_enter Try.func28, Try.ntmps28
      go_wp2
      go_ret
      exact ⟨ret_int HS.out.symm, rfl⟩
    · have hb' : ((b.size : Int) == 0) = false := beq_eq_false_iff_ne.2 (by omega)
      rw [if_neg hb] at hS
      clear ha hb
      by_cases hlt : ap < bp
      · rw [if_pos hlt] at hS
        subst hS
        go_enter Try.func28, Try.ntmps28
        go_wp2
        go_ret
        exact ⟨ret_int HS.out.symm, rfl⟩
      · have hlt' : decide (ap < bp) = false := decide_eq_false hlt
        rw [if_neg hlt] at hS
        by_cases hgt : bp < ap
        · rw [if_pos hgt] at hS
          subst hS
          go_enter Try.func28, Try.ntmps28
          go_wp2
          go_ret
          exact ⟨ret_int HS.out.symm, rfl⟩
        · have hgt' : decide (bp < ap) = false := decide_eq_false hgt
          rw [if_neg hgt, ← HL.out.1, ← HL.out.2] at hS
          have HS2 : Hid _ := hS
          clear hS
          go_enter Try.func28, Try.ntmps28
          go_wp2_with fail
          refine (cmp_any a b w HD.out.1 HD.out.2 h1 h2).mono ?_
          rintro e w1 ⟨rfl, hw1⟩
          obtain rfl := hw1.symm
          clear hw1
          rw [HS2.out]
          go_wp2
          go_ret
          exact ⟨ret_int HS.out.symm, rfl⟩

theorem cmpMag_three (xs : List Int) (ap : Int) (ys : List Int) (bp : Int) : cmpMag xs ap ys bp = -1 ∨ cmpMag xs ap ys bp = 0 ∨ cmpMag xs ap ys bp = 1 := by
  unfold cmpMag cmpV
  repeat' split
  all_goals simp
theorem sgn_three (neg : Bool) (ds : List Int) : sgn neg ds = -1 ∨ sgn neg ds = 0 ∨ sgn neg ds = 1 := by
  unfold sgn
  repeat' split
  all_goals simp

set_option maxHeartbeats 2000000 in
theorem cmp_dec (an bn : Bool) (a b : ByteArray) (ap bp : Int) (w : World) (hd1 : IsDig (nums a)) (hd2 : IsDig (nums b)) (h1 : a.size ≤ 65536) (h2 : b.size ≤ 65536) :
    Calls Try.prog 25 #[.bool an, .string a, .int .i64 ap, .bool bn, .string b, .int .i64 bp] w fun e w' => e = .returned (.int .i64 (cmpDec an (nums a) ap bn (nums b) bp)) ∧ w' = w := by
  have HD : Hid (IsDig (nums a) ∧ IsDig (nums b)) := ⟨hd1, hd2⟩
  clear hd1 hd2
  obtain ⟨r, HS⟩ : ∃ r, Hid (cmpDec an (nums a) ap bn (nums b) bp = r) := ⟨_, rfl⟩
  have hS := HS.out
  unfold cmpDec at hS
  obtain ⟨x, HX, hx⟩ : ∃ x, Hid (sgn an (nums a) = x) ∧ (x = -1 ∨ x = 0 ∨ x = 1) := ⟨_, rfl, sgn_three _ _⟩
  obtain ⟨y, HY, hy⟩ : ∃ y, Hid (sgn bn (nums b) = y) ∧ (y = -1 ∨ y = 0 ∨ y = 1) := ⟨_, rfl, sgn_three _ _⟩
  obtain ⟨m, HM, hm⟩ : ∃ m, Hid (cmpMag (nums a) ap (nums b) bp = m) ∧ (m = -1 ∨ m = 0 ∨ m = 1) := ⟨_, rfl, cmpMag_three _ _ _ _⟩
  rw [HX.out, HY.out, HM.out] at hS
  go_enter Try.func25, Try.ntmps25
  go_wp2_with fail
  refine (sgn_walk an a w h1).mono ?_
  rintro e w1 ⟨rfl, hw1⟩
  obtain rfl := hw1.symm
  clear hw1
  rw [HX.out]
  go_wp2_with fail
  refine (sgn_walk bn b w h2).mono ?_
  rintro e w1 ⟨rfl, hw1⟩
  obtain rfl := hw1.symm
  clear hw1
  rw [HY.out]
  by_cases hlt : x < y
  · rw [if_pos hlt] at hS
    subst hS
    go_wp2
    go_ret
    exact ⟨ret_int HS.out.symm, rfl⟩
  · have hlt' : decide (x < y) = false := decide_eq_false hlt
    rw [if_neg hlt] at hS
    by_cases hgt : y < x
    · rw [if_pos hgt] at hS
      subst hS
      go_wp2
      go_ret
      exact ⟨ret_int HS.out.symm, rfl⟩
    · have hgt' : decide (y < x) = false := decide_eq_false hgt
      rw [if_neg hgt] at hS
      by_cases h0 : x = 0
      · rw [if_pos h0] at hS
        subst hS
        have h0' : (x == 0) = true := beq_iff_eq.2 h0
        clear h0
        go_wp2
        go_ret
        exact ⟨ret_int HS.out.symm, rfl⟩
      · rw [if_neg h0] at hS
        have h0' : (x == 0) = false := beq_eq_false_iff_ne.2 h0
        go_wp2_with fail
        refine (cmp_mag a b ap bp w HD.out.1 HD.out.2 h1 h2).mono ?_
        rintro e w1 ⟨rfl, hw1⟩
        obtain rfl := hw1.symm
        clear hw1
        rw [HM.out]
        by_cases hn : x < 0
        · rw [if_pos hn] at hS
          have HS2 : Hid _ := hS
          clear hS
          go_wp2
          go_ret
          exact ⟨ret_int (by rw [HS.out, ← HS2.out]), rfl⟩
        · have hn' : decide (x < 0) = false := decide_eq_false hn
          rw [if_neg hn] at hS
          have HS2 : Hid _ := hS
          clear hS
          go_wp2
          go_ret
          exact ⟨ret_int (by rw [HS.out, ← HS2.out]), rfl⟩

theorem ret_u64' {x y : Int} (h : x = y) : Ending.returned (.int .u64 x) = .returned (.int .u64 y) := by rw [h]
theorem pow10_walk (P : Nat) (w : World) (hP : P ≤ 19) :
    Calls Try.prog 29 #[.int .i64 P] w fun e w' => e = .returned (.int .u64 (10 ^ P)) ∧ w' = w := by
  go_enter Try.func29, Try.ntmps29
  go_wp2
  go_loop [3, 4] (fun u i => ∃ k : Nat, k ≤ P ∧ u = .int .u64 (10 ^ k) ∧ i = .int .i64 k) (fun _ i => P - (intOf i).toNat)
  case atStart => exact ⟨0, Nat.zero_le _, rfl, rfl⟩
  case round =>
    obtain ⟨k, hk, rfl, rfl⟩ := hrel
    by_cases hkP : k < P
    · have hkP' : (k : Int) < (P : Int) := by omega
      have hpw : (10 : Int) ^ k ≤ 10 ^ 18 := pow_mono10 (by omega)
      have hpw2 : (10 : Int) ^ 18 = 1000000000000000000 := rfl
      have hpp := pow_pos10 k
      have HNu : Hid ((10 : Int) ^ (k + 1) = 10 ^ k * 10) := Int.pow_succ _ _
      generalize (10 : Int) ^ k = U at *
      have hU : 0 ≤ U ∧ U ≤ 1000000000000000000 := by omega
      clear hpw hpw2 hpp
      go_wp2
      go_round
      case rel => exact ⟨k + 1, by omega, by rw [HNu.out], by go_num⟩
      case measure => simp [intOf]; omega
    · obtain rfl : k = P := by omega
      have hkP' : decide ((k : Int) < (k : Int)) = false := decide_eq_false (by omega)
      obtain ⟨U, HU⟩ : ∃ U, Hid ((10 : Int) ^ k = U) := ⟨_, rfl⟩
      rw [HU.out]
      go_wp2
      go_ret
      exact ⟨ret_u64' HU.out.symm, rfl⟩

theorem fl_bytes_ok (neg lg : Bool) (s : ByteArray) (pt keep : Int) (w : World) (hs : s.size ≤ 1048576) :
    Calls Try.prog 26 #[.bool neg, .string s, .int .i64 pt, .bool lg, .int .i64 keep] w fun e w' => e = .returned (.bool true) ∧ w' = w := by
  have h1 : ¬ (1048576 : Int) < (s.size : Int) := by omega
  go_enter Try.func26, Try.ntmps26
  go_wp2
  go_ret
  exact ⟨rfl, rfl⟩
theorem fl_bytes_no (neg lg : Bool) (s : ByteArray) (pt keep : Int) (w : World) (hs : 1048576 < s.size) (hm : s.size ≤ maxLen) :
    Calls Try.prog 26 #[.bool neg, .string s, .int .i64 pt, .bool lg, .int .i64 keep] w fun e w' => e = .returned (.bool false) ∧ w' = w := by
  have h1 : (1048576 : Int) < (s.size : Int) := by omega
  go_enter Try.func26, Try.ntmps26
  go_wp2
  go_ret
  exact ⟨rfl, rfl⟩

end Go.Proofs.Qxb6600033a
