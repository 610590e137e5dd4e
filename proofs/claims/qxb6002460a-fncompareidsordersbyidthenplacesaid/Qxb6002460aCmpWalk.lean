/-
  THE WALKS of strings.Compare, cmp.Compare, compareIDs, lexCompareG2, modelCompareIDsG2.
-/
import Derived.Test.Qxb6002460aRows
import Derived.Test.Qxb6002460aCmpPlain
import Derived.WalkKit
import Derived.ProofKit
import Derived.ShutString
import Derived.ChangeOld
import Derived.Below
import Derived.WalkSpells
import Derived.WalkLawsBesides
import Derived.Outline
import Derived.Deep.QuietTactic
import Derived.BigQuiet
import Derived.Lib.Strings
import Derived.Lib.Slices
import Derived.Lib.Walk
namespace Go.Proofs.Qxb6002460a
open Go.RowKit
set_option linter.unusedVariables false
set_option maxRecDepth 100000

set_option maxHeartbeats 1000000 in
theorem cmpString (a b : ByteArray) (w : World) :
    Calls Try.prog 21 #[.string a, .string b] w fun e w' => e = .returned (.int .i64 (Lib.compareBytes a.data.toList b.data.toList)) ∧ w' = w := by
  go_enter Try.func21, Try.ntmps21
  go_wp2
  rw [run_callFunc_extern Try.func23 (by kernel_rfl) (by kernel_rfl) (by kernel_rfl) (e := Extern.BytealgCompare.compare) (by kernel_rfl), Lib.run_compareString]
  simp only [Result.andThen]
  rw [Oper.upon_value]
  go_wp2
  go_ret
  exact ⟨rfl, rfl⟩

theorem strCompare (a b : ByteArray) (w : World) :
    Calls Try.prog 19 #[.string a, .string b] w fun e w' => e = .returned (.int .i64 (Lib.compareBytes a.data.toList b.data.toList)) ∧ w' = w := by
  go_enter Try.func19, Try.ntmps19
  go_wp2_with (go_at_call 21; refine (cmpString _ _ _).mono ?_; rintro e w' ⟨rfl, rfl⟩)
  go_ret
  exact ⟨rfl, rfl⟩

theorem ret_int {k : IntKind} {a b : Int} (h : a = b) : Ending.returned (.int k a) = .returned (.int k b) := by rw [h]

set_option maxHeartbeats 1000000 in
theorem zzCompare (a b : ByteArray) (i j : Int) (w : World) :
    Calls Try.prog 7 #[.string a, .int .i64 i, .string b, .int .i64 j] w fun e w' => e = .returned (.int .i64 (cmpID a.data.toList i b.data.toList j)) ∧ Below w.heap.size w w' := by
  have hv := cmp_vals a.data.toList b.data.toList
  obtain ⟨C, HC⟩ : ∃ C, Hid (Lib.compareBytes a.data.toList b.data.toList = C) := ⟨_, rfl⟩
  rw [HC.out] at hv
  by_cases hz : C = 0
  · subst hz
    clear hv
    rcases Int.lt_trichotomy i j with h | h | h
    · have HR : Hid (cmpID a.data.toList i b.data.toList j = -1) := by show _ = _; simp [cmpID, HC.out, h]
      go_enter Try.func7, Try.ntmps7
      go_wp2_with (first | (go_at_call 19; refine (strCompare _ _ _).mono ?_; rw [HC.out]; rintro e w' ⟨rfl, rfl⟩) | go_in)
      go_ret
      exact ⟨ret_int HR.out.symm, ((Below.refl _ _).alloc (Nat.le_refl _) _).alloc (by simp) _⟩
    · subst h
      have HR : Hid (cmpID a.data.toList i b.data.toList i = 0) := by show _ = _; simp [cmpID, HC.out]
      go_enter Try.func7, Try.ntmps7
      go_wp2_with (first | (go_at_call 19; refine (strCompare _ _ _).mono ?_; rw [HC.out]; rintro e w' ⟨rfl, rfl⟩) | go_in)
      go_ret
      exact ⟨ret_int HR.out.symm, ((Below.refl _ _).alloc (Nat.le_refl _) _).alloc (by simp) _⟩
    · have h' : ¬ i < j := by omega
      have HR : Hid (cmpID a.data.toList i b.data.toList j = 1) := by show _ = _; simp [cmpID, HC.out, h, h']
      go_enter Try.func7, Try.ntmps7
      go_wp2_with (first | (go_at_call 19; refine (strCompare _ _ _).mono ?_; rw [HC.out]; rintro e w' ⟨rfl, rfl⟩) | go_in)
      go_ret
      exact ⟨ret_int HR.out.symm, ((Below.refl _ _).alloc (Nat.le_refl _) _).alloc (by simp) _⟩
  · have HR : Hid (cmpID a.data.toList i b.data.toList j = C) := by show _ = _; simp [cmpID, HC.out, hz]
    have hz' : (C != 0) = true := by simpa using hz
    clear hv hz
    go_enter Try.func7, Try.ntmps7
    go_wp2_with (first | (go_at_call 19; refine (strCompare _ _ _).mono ?_; rw [HC.out]; rintro e w' ⟨rfl, rfl⟩) | go_in)
    go_ret
    exact ⟨ret_int HR.out.symm, ((Below.refl _ _).alloc (Nat.le_refl _) _).alloc (by simp) _⟩

theorem cmp_drop (a b : List UInt8) (k : Nat) (ha : k < a.length) (hb : k < b.length) :
    Lib.compareBytes (a.drop k) (b.drop k) = if a[k] < b[k] then -1 else if b[k] < a[k] then 1 else Lib.compareBytes (a.drop (k + 1)) (b.drop (k + 1)) := by
  rw [List.drop_eq_getElem_cons ha, List.drop_eq_getElem_cons hb, Lib.compareBytes]

theorem len_data (a : ByteArray) : a.data.toList.length = a.size := Array.length_toList
theorem cmp_at (a b : ByteArray) (k : Nat) (ha : k < a.size) (hb : k < b.size) :
    Lib.compareBytes (a.data.toList.drop k) (b.data.toList.drop k) = if a[k].toNat < b[k].toNat then -1 else if b[k].toNat < a[k].toNat then 1 else Lib.compareBytes (a.data.toList.drop (k + 1)) (b.data.toList.drop (k + 1)) :=
  cmp_drop a.data.toList b.data.toList k (by rw [len_data]; exact ha) (by rw [len_data]; exact hb)
theorem drop_end (a : ByteArray) : a.data.toList.drop a.size = [] := List.drop_eq_nil_of_le (by rw [len_data]; exact Nat.le_refl _)
theorem drop_more (a : ByteArray) (k : Nat) (h : k < a.size) : ∃ x r, a.data.toList.drop k = x :: r := ⟨_, _, List.drop_eq_getElem_cons (by rw [len_data]; exact h)⟩
theorem cmp_end_b (a b : ByteArray) (h : b.size < a.size) : Lib.compareBytes (a.data.toList.drop b.size) (b.data.toList.drop b.size) = 1 := by
  obtain ⟨x, r, e⟩ := drop_more a b.size h
  rw [e, drop_end, Lib.compareBytes]
theorem cmp_end_a (a b : ByteArray) (h : a.size < b.size) : Lib.compareBytes (a.data.toList.drop a.size) (b.data.toList.drop a.size) = -1 := by
  obtain ⟨x, r, e⟩ := drop_more b a.size h
  rw [e, drop_end, Lib.compareBytes]
theorem cmp_end_e (a b : ByteArray) (h : a.size = b.size) : Lib.compareBytes (a.data.toList.drop a.size) (b.data.toList.drop a.size) = 0 := by
  rw [drop_end, h, drop_end, Lib.compareBytes]

set_option maxHeartbeats 2000000 in
theorem lex_any (a b : ByteArray) (w : World) (ha : a.size ≤ 1048576) (hb : b.size ≤ 1048576) :
    Calls Try.prog 17 #[.string a, .string b] w fun e w' => e = .returned (.int .i64 (Lib.compareBytes a.data.toList b.data.toList)) ∧ Below w.heap.size w w' := by
  by_cases hlt : b.size < a.size
  · go_enter Try.func17, Try.ntmps17
    go_wp2
    go_loopw [6] (fun i wr => ∃ k : Nat, k ≤ b.size ∧ i = .int .i64 k ∧ Hid (Lib.compareBytes a.data.toList b.data.toList = Lib.compareBytes (a.data.toList.drop k) (b.data.toList.drop k)) ∧ Hid (Below w.heap.size w wr)) (fun i _ => b.size - (intOf i).toNat)
    case atStart => exact ⟨0, Nat.zero_le _, rfl, rfl, Below.refl _ _⟩
    case round =>
      obtain ⟨k, hk, rfl, HE, HB⟩ := hrel
      by_cases hkn : k < b.size
      · have hka : k < a.size := by omega
        have hkb : k < b.size := by omega
        have hka' : (k : Int) < (a.size : Int) := by omega
        have hkb' : (k : Int) < (b.size : Int) := by omega
        have HD := cmp_at a b k hka hkb
        rw [← HE.out] at HD
        have HD : Hid _ := HD
        rcases Nat.lt_trichotomy a[k].toNat b[k].toNat with h | h | h
        · have h' : (a[k].toNat : Int) < (b[k].toNat : Int) := by omega
          have HF : Hid (Lib.compareBytes a.data.toList b.data.toList = -1) := by show _ = _; rw [HD.out, if_pos h]
          clear HE HD h
          go_wp2
          go_quiet (fail)
          go_wp2
          go_ret
          exact ⟨ret_int HF.out.symm, below_drewN HB.out _⟩
        · have h1 : ¬ (a[k].toNat : Int) < (b[k].toNat : Int) := by omega
          have h2 : ¬ (b[k].toNat : Int) < (a[k].toNat : Int) := by omega
          have HF : Hid (Lib.compareBytes a.data.toList b.data.toList = Lib.compareBytes (a.data.toList.drop (k + 1)) (b.data.toList.drop (k + 1))) := by show _ = _; rw [HD.out, if_neg (by omega), if_neg (by omega)]
          clear HE HD h
          go_wp2
          go_quiet (fail)
          go_wp2
          go_quiet (fail)
          go_wp2
          go_roundw
          case rel => exact ⟨k + 1, by omega, by go_num, HF.out, below_drewN HB.out _⟩
          case measure => simp [intOf]; omega
        · have h1 : ¬ (a[k].toNat : Int) < (b[k].toNat : Int) := by omega
          have h2 : (b[k].toNat : Int) < (a[k].toNat : Int) := by omega
          have HF : Hid (Lib.compareBytes a.data.toList b.data.toList = 1) := by show _ = _; rw [HD.out, if_neg (by omega), if_pos h]
          clear HE HD h
          go_wp2
          go_quiet (fail)
          go_wp2
          go_quiet (fail)
          go_wp2
          go_ret
          exact ⟨ret_int HF.out.symm, below_drewN (below_drewN HB.out _) _⟩
      · obtain rfl : k = b.size := by omega
        have HF : Hid (Lib.compareBytes a.data.toList b.data.toList = 1) := by show _ = _; rw [HE.out]; exact cmp_end_b a b hlt
        have h1 : ¬ (a.size : Int) < (b.size : Int) := by omega
        have h2 : (b.size : Int) < (a.size : Int) := by omega
        clear HE
        go_wp2
        go_ret
        exact ⟨ret_int HF.out.symm, HB.out⟩
  · go_enter Try.func17, Try.ntmps17
    go_wp2
    go_loopw [6] (fun i wr => ∃ k : Nat, k ≤ a.size ∧ i = .int .i64 k ∧ Hid (Lib.compareBytes a.data.toList b.data.toList = Lib.compareBytes (a.data.toList.drop k) (b.data.toList.drop k)) ∧ Hid (Below w.heap.size w wr)) (fun i _ => a.size - (intOf i).toNat)
    case atStart => exact ⟨0, Nat.zero_le _, rfl, rfl, Below.refl _ _⟩
    case round =>
      obtain ⟨k, hk, rfl, HE, HB⟩ := hrel
      by_cases hkn : k < a.size
      · have hka : k < a.size := by omega
        have hkb : k < b.size := by omega
        have hka' : (k : Int) < (a.size : Int) := by omega
        have hkb' : (k : Int) < (b.size : Int) := by omega
        have HD := cmp_at a b k hka hkb
        rw [← HE.out] at HD
        have HD : Hid _ := HD
        rcases Nat.lt_trichotomy a[k].toNat b[k].toNat with h | h | h
        · have h' : (a[k].toNat : Int) < (b[k].toNat : Int) := by omega
          have HF : Hid (Lib.compareBytes a.data.toList b.data.toList = -1) := by show _ = _; rw [HD.out, if_pos h]
          clear HE HD h
          go_wp2
          go_quiet (fail)
          go_wp2
          go_ret
          exact ⟨ret_int HF.out.symm, below_drewN HB.out _⟩
        · have h1 : ¬ (a[k].toNat : Int) < (b[k].toNat : Int) := by omega
          have h2 : ¬ (b[k].toNat : Int) < (a[k].toNat : Int) := by omega
          have HF : Hid (Lib.compareBytes a.data.toList b.data.toList = Lib.compareBytes (a.data.toList.drop (k + 1)) (b.data.toList.drop (k + 1))) := by show _ = _; rw [HD.out, if_neg (by omega), if_neg (by omega)]
          clear HE HD h
          go_wp2
          go_quiet (fail)
          go_wp2
          go_quiet (fail)
          go_wp2
          go_roundw
          case rel => exact ⟨k + 1, by omega, by go_num, HF.out, below_drewN HB.out _⟩
          case measure => simp [intOf]; omega
        · have h1 : ¬ (a[k].toNat : Int) < (b[k].toNat : Int) := by omega
          have h2 : (b[k].toNat : Int) < (a[k].toNat : Int) := by omega
          have HF : Hid (Lib.compareBytes a.data.toList b.data.toList = 1) := by show _ = _; rw [HD.out, if_neg (by omega), if_pos h]
          clear HE HD h
          go_wp2
          go_quiet (fail)
          go_wp2
          go_quiet (fail)
          go_wp2
          go_ret
          exact ⟨ret_int HF.out.symm, below_drewN (below_drewN HB.out _) _⟩
      · obtain rfl : k = a.size := by omega
        by_cases hab : a.size < b.size
        · have HF : Hid (Lib.compareBytes a.data.toList b.data.toList = -1) := by show _ = _; rw [HE.out]; exact cmp_end_a a b hab
          have h1 : (a.size : Int) < (b.size : Int) := by omega
          clear HE
          go_wp2
          go_ret
          exact ⟨ret_int HF.out.symm, HB.out⟩
        · have HF : Hid (Lib.compareBytes a.data.toList b.data.toList = 0) := by show _ = _; rw [HE.out]; exact cmp_end_e a b (by omega)
          have h1 : ¬ (a.size : Int) < (b.size : Int) := by omega
          have h2 : ¬ (b.size : Int) < (a.size : Int) := by omega
          clear HE
          go_wp2
          go_ret
          exact ⟨ret_int HF.out.symm, HB.out⟩

set_option maxHeartbeats 1000000 in
theorem model_any (a b : ByteArray) (i j : Int) (w : World) (ha : a.size ≤ 1048576) (hb : b.size ≤ 1048576) :
    Calls Try.prog 8 #[.string a, .int .i64 i, .string b, .int .i64 j] w fun e w' => e = .returned (.int .i64 (cmpID a.data.toList i b.data.toList j)) ∧ Below w.heap.size w w' := by
  obtain ⟨C, HC⟩ : ∃ C, Hid (Lib.compareBytes a.data.toList b.data.toList = C) := ⟨_, rfl⟩
  by_cases hz : C = 0
  · subst hz
    rcases Int.lt_trichotomy i j with h | h | h
    · have HR : Hid (cmpID a.data.toList i b.data.toList j = -1) := by show _ = _; simp [cmpID, HC.out, h]
      go_enter Try.func8, Try.ntmps8
      go_wp2_with (first | (go_at_call 17; refine (lex_any _ _ _ ha hb).mono ?_; rw [HC.out]; rintro e w' ⟨rfl, hb'⟩))
      go_ret
      exact ⟨ret_int HR.out.symm, hb'⟩
    · subst h
      have HR : Hid (cmpID a.data.toList i b.data.toList i = 0) := by show _ = _; simp [cmpID, HC.out]
      go_enter Try.func8, Try.ntmps8
      go_wp2_with (first | (go_at_call 17; refine (lex_any _ _ _ ha hb).mono ?_; rw [HC.out]; rintro e w' ⟨rfl, hb'⟩))
      go_ret
      exact ⟨ret_int HR.out.symm, hb'⟩
    · have h' : ¬ i < j := by omega
      have HR : Hid (cmpID a.data.toList i b.data.toList j = 1) := by show _ = _; simp [cmpID, HC.out, h, h']
      go_enter Try.func8, Try.ntmps8
      go_wp2_with (first | (go_at_call 17; refine (lex_any _ _ _ ha hb).mono ?_; rw [HC.out]; rintro e w' ⟨rfl, hb'⟩))
      go_ret
      exact ⟨ret_int HR.out.symm, hb'⟩
  · have HR : Hid (cmpID a.data.toList i b.data.toList j = C) := by show _ = _; simp [cmpID, HC.out, hz]
    have hz' : (C != 0) = true := by simpa using hz
    clear hz
    go_enter Try.func8, Try.ntmps8
    go_wp2_with (first | (go_at_call 17; refine (lex_any _ _ _ ha hb).mono ?_; rw [HC.out]; rintro e w' ⟨rfl, hb'⟩))
    go_ret
    exact ⟨ret_int HR.out.symm, hb'⟩
end Go.Proofs.Qxb6002460a
