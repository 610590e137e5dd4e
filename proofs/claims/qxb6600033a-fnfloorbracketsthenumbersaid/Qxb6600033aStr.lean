/-
  THE WALKS of zzB1ValidDigits, zzB1ValidDec, zzB1DigitOrZero, zzBytes.
-/
import Derived.Test.Qxb6600033aDig
namespace Go.Proofs.Qxb6600033a
open Go.RowKit
set_option linter.unusedVariables false
set_option maxRecDepth 100000

theorem dg_nums (s : ByteArray) (k : Nat) (h : k < s.size) : dg (nums s) k = ((s[k]'h).toNat : Int) := by
  have hj : k < s.data.toList.length := by rw [Array.length_toList]; exact h
  simp [dg, nums, List.getD_eq_getElem?_getD, List.getElem?_map, List.getElem?_eq_getElem hj]
  rfl

/-- Digit i; '0' behind the end. -/
def orZero (ds : List Int) (i : Nat) : Int := if i < ds.length then dg ds i else 48
/-- The call answers whether p holds. -/
def Tells (e : Ending) (p : Prop) : Prop := ∃ v, e = .returned (.bool v) ∧ (v = true ↔ p)
theorem Tells.yes {p : Prop} (h : p) : Tells (.returned (.bool true)) p := ⟨true, rfl, ⟨fun _ => h, fun _ => rfl⟩⟩
theorem Tells.no {p : Prop} (h : ¬ p) : Tells (.returned (.bool false)) p := ⟨false, rfl, ⟨fun h => Bool.noConfusion h, fun h' => absurd h' h⟩⟩

theorem digit_or_zero (s : ByteArray) (i : Nat) (w : World) (hi : i ≤ 65536) :
    Calls Try.prog 20 #[.string s, .int .i64 i] w fun e w' => e = .returned (.int .u8 (orZero (nums s) i)) ∧ w' = w := by
  by_cases h : i < s.size
  · have h' : (i : Int) < (s.size : Int) := by omega
    have hx : Hid (dg (nums s) i = (s[i].toNat : Int)) := dg_nums s i h
    go_enter Try.func20, Try.ntmps20
    go_wp2
    go_ret
    exact ⟨by rw [orZero, nums_length, if_pos h, hx.out]; rfl, rfl⟩
  · have h' : decide ((i : Int) < (s.size : Int)) = false := decide_eq_false (by omega)
    go_enter Try.func20, Try.ntmps20
    go_wp2
    go_ret
    exact ⟨by rw [orZero, nums_length, if_neg h]; rfl, rfl⟩

theorem isDig_of {s : ByteArray} (h : ∀ j, j < s.size → 48 ≤ dg (nums s) j ∧ dg (nums s) j ≤ 57) : IsDig (nums s) := fun x hx => by
  obtain ⟨j, hj, rfl⟩ := List.getElem_of_mem hx
  have := h j (by rw [← nums_length]; exact hj)
  rwa [dg_get hj] at this

set_option maxHeartbeats 2000000 in
theorem valid_digits (s : ByteArray) (w : World) (hs : s.size ≤ 1048576) :
    Calls Try.prog 19 #[.string s] w fun e w' => Tells e (Valid (nums s)) ∧ w' = w := by
  go_enter Try.func19, Try.ntmps19
  go_wp2
  go_loop [3] (fun i => ∃ k : Nat, k ≤ s.size ∧ i = .int .i64 k ∧ Hid (∀ j, j < k → 48 ≤ dg (nums s) j ∧ dg (nums s) j ≤ 57)) (fun i => s.size - (intOf i).toNat)
  case atStart => exact ⟨0, Nat.zero_le _, rfl, fun j h => by omega⟩
  case round =>
    obtain ⟨k, hk, rfl, HE⟩ := hrel
    by_cases hkn : k < s.size
    · have hk' : (k : Int) < (s.size : Int) := by omega
      have HX : Hid (dg (nums s) k = (s[k].toNat : Int)) := dg_nums s k hkn
      by_cases h1 : s[k].toNat < 48
      · have h1' : (s[k].toNat : Int) < 48 := by omega
        go_wp2
        go_ret
        refine ⟨Tells.no (fun h => ?_), rfl⟩
        have := dg_dig h.1 (show k < (nums s).length by rw [nums_length]; exact hkn)
        rw [HX.out] at this; omega
      · have h1' : decide ((s[k].toNat : Int) < 48) = false := decide_eq_false (by omega)
        by_cases h2 : 57 < s[k].toNat
        · have h2' : (57 : Int) < (s[k].toNat : Int) := by omega
          go_wp2
          go_ret
          refine ⟨Tells.no (fun h => ?_), rfl⟩
          have := dg_dig h.1 (show k < (nums s).length by rw [nums_length]; exact hkn)
          rw [HX.out] at this; omega
        · have h2' : decide ((57 : Int) < (s[k].toNat : Int)) = false := decide_eq_false (by omega)
          have HE2 : Hid (∀ j, j < k + 1 → 48 ≤ dg (nums s) j ∧ dg (nums s) j ≤ 57) := fun j hj => by
            by_cases e : j = k
            · rw [e, HX.out]; omega
            · exact HE.out j (by omega)
          go_wp2
          go_round
          case rel => exact ⟨k + 1, by omega, by go_num, HE2.out⟩
          case measure => simp [intOf]; omega
    · obtain rfl : k = s.size := by omega
      have HD : Hid (IsDig (nums s)) := isDig_of HE.out
      have hkk : decide ((s.size : Int) < (s.size : Int)) = false := decide_eq_false (by omega)
      by_cases h0 : s.size = 0
      · have HV : Hid (Valid (nums s)) := ⟨HD.out, fun h => by rw [nums_length] at h; omega⟩
        have h0' : decide ((0 : Int) < (s.size : Int)) = false := decide_eq_false (by omega)
        go_wp2
        go_ret
        exact ⟨Tells.yes HV.out, rfl⟩
      · have h0' : (0 : Int) < (s.size : Int) := by omega
        have h0n : 0 < s.size := by omega
        have h1n : s.size - 1 < s.size := by omega
        have X0 : Hid (dg (nums s) 0 = (s[0].toNat : Int)) := dg_nums s 0 h0n
        have X1 : Hid (dg (nums s) (s.size - 1) = (s[s.size - 1].toNat : Int)) := dg_nums s _ h1n
        by_cases h1 : s[0].toNat = 48
        · have h1' : ((s[0].toNat : Int) == 48) = true := by simp; omega
          go_wp2
          go_ret
          refine ⟨Tells.no (fun h => ?_), rfl⟩
          have := (h.2 (by rw [nums_length]; exact h0n)).1
          rw [X0.out] at this; omega
        · have h1' : ((s[0].toNat : Int) == 48) = false := by simp; omega
          by_cases h2 : s[s.size - 1].toNat = 48
          · have h2' : ((s[s.size - 1].toNat : Int) == 48) = true := by simp; omega
            go_wp2
            go_ret
            refine ⟨Tells.no (fun h => ?_), rfl⟩
            have := (h.2 (by rw [nums_length]; exact h0n)).2
            rw [nums_length, X1.out] at this; omega
          · have h2' : ((s[s.size - 1].toNat : Int) == 48) = false := by simp; omega
            have HV : Hid (Valid (nums s)) := ⟨HD.out, fun h => by rw [nums_length, X0.out, X1.out]; omega⟩
            go_wp2
            go_ret
            exact ⟨Tells.yes HV.out, rfl⟩

/-- What zzB1ValidDec asks. -/
def ValidDec (ds : List Int) (pt : Int) : Prop := Valid ds ∧ ((ds.length = 0 ∧ pt = 0) ∨ (0 < ds.length ∧ -9999 ≤ pt ∧ pt ≤ 10001))

set_option maxHeartbeats 2000000 in
theorem valid_dec (s : ByteArray) (pt : Int) (w : World) (hs : s.size ≤ 1048576) :
    Calls Try.prog 13 #[.string s, .int .i64 pt] w fun e w' => Tells e (ValidDec (nums s) pt) ∧ w' = w := by
  have hL := nums_length s
  have HL : Hid _ := hL
  clear hL
  go_enter Try.func13, Try.ntmps13
  go_wp2_with fail
  refine (valid_digits s w hs).mono ?_
  rintro e w1 ⟨⟨v, rfl, hv⟩, hw1⟩
  obtain rfl := hw1.symm
  clear hw1
  cases v with
  | false =>
    have HV : Hid (¬ Valid (nums s)) := fun h => Bool.noConfusion (hv.2 h)
    clear hv
    go_wp2
    go_ret
    exact ⟨Tells.no fun h => HV.out h.1, rfl⟩
  | true =>
    have HV : Hid (Valid (nums s)) := hv.1 rfl
    clear hv
    by_cases h0 : s.size = 0
    · have h0' : ((s.size : Int) == 0) = true := beq_iff_eq.2 (by omega)
      by_cases hp : pt = 0
      · have hp' : (pt == 0) = true := by simpa using hp
        have HT : Hid (ValidDec (nums s) pt) := ⟨HV.out, .inl ⟨by rw [HL.out]; exact h0, hp⟩⟩
        clear h0 hp
        go_wp2
        go_ret
        exact ⟨Tells.yes HT.out, rfl⟩
      · have hp' : (pt == 0) = false := by simpa using hp
        have HT : Hid (¬ ValidDec (nums s) pt) := fun h => by
          rcases h.2 with ⟨_, h2⟩ | ⟨h1, _⟩
          · exact hp h2
          · rw [HL.out] at h1; omega
        clear h0 hp
        go_wp2
        go_ret
        exact ⟨Tells.no HT.out, rfl⟩
    · have h0' : ((s.size : Int) == 0) = false := beq_eq_false_iff_ne.2 (by omega)
      by_cases hp : -9999 ≤ pt
      · by_cases hp2 : pt ≤ 10001
        · have HT : Hid (ValidDec (nums s) pt) := ⟨HV.out, .inr ⟨by rw [HL.out]; omega, hp, hp2⟩⟩
          clear h0
          go_wp2
          go_ret
          exact ⟨Tells.yes HT.out, rfl⟩
        · have hp2' : decide (pt ≤ 10001) = false := decide_eq_false hp2
          have HT : Hid (¬ ValidDec (nums s) pt) := fun h => by
            rcases h.2 with ⟨h1, _⟩ | ⟨_, _, h3⟩
            · rw [HL.out] at h1; omega
            · omega
          clear h0
          go_wp2
          go_ret
          exact ⟨Tells.no HT.out, rfl⟩
      · have HT : Hid (¬ ValidDec (nums s) pt) := fun h => by
          rcases h.2 with ⟨h1, _⟩ | ⟨_, h2, _⟩
          · rw [HL.out] at h1; omega
          · omega
        clear h0
        go_wp2
        go_ret
        exact ⟨Tells.no HT.out, rfl⟩

theorem bytes_ok (neg lg : Bool) (s : ByteArray) (pt keep : Int) (w : World) (hs : s.size ≤ 1048576) :
    Calls Try.prog 12 #[.bool neg, .string s, .int .i64 pt, .bool lg, .int .i64 keep] w fun e w' => e = .returned (.bool true) ∧ w' = w := by
  have h1 : ¬ (1048576 : Int) < (s.size : Int) := by omega
  go_enter Try.func12, Try.ntmps12
  go_wp2
  go_ret
  exact ⟨rfl, rfl⟩
theorem bytes_no (neg lg : Bool) (s : ByteArray) (pt keep : Int) (w : World) (hs : 1048576 < s.size) (hm : s.size ≤ maxLen) :
    Calls Try.prog 12 #[.bool neg, .string s, .int .i64 pt, .bool lg, .int .i64 keep] w fun e w' => e = .returned (.bool false) ∧ w' = w := by
  have h1 : (1048576 : Int) < (s.size : Int) := by omega
  go_enter Try.func12, Try.ntmps12
  go_wp2
  go_ret
  exact ⟨rfl, rfl⟩

end Go.Proofs.Qxb6600033a
