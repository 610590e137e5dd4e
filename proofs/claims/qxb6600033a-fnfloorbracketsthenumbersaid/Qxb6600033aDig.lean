/-
  THE WALKS of digits, ZZDigits, ZZNeg, ZZPoint, trimZeros.
-/
import Derived.Test.Qxb6600033aMake
import Derived.Test.Qxb6600033aRndPlain
namespace Go.Proofs.Qxb6600033a
open Go.RowKit
set_option linter.unusedVariables false
set_option maxRecDepth 100000

set_option maxHeartbeats 2000000 in
theorem make_empty (neg : Bool) (s : ByteArray) (pt : Int) (w : World) (hs : s.size = 0) :
    Calls Try.prog 14 #[.bool neg, .string s, .int .i64 pt, .bool true] w fun e w' => e = .returned (.agg (dec26 neg s.size (dg (nums s)) (.slice none 0 0) pt)) ∧ Below w.heap.size w w' := by
  have g1 : decide ((22 : Int) < (s.size : Int)) = false := decide_eq_false (by omega)
  have g2 : decide ((0 : Int) < (s.size : Int)) = false := decide_eq_false (by omega)
  have g3 : ¬ 0 < s.size := by omega
  have hs22 : s.size ≤ 22 := by omega
  have HS : Hid (s.size = 0) := hs
  have hcp := fun (wx : World) (B : Nat) (hB : B = wx.heap.size) => copy_make neg s pt wx B hB hs22
  have q1 := dec_get1
  have q2 := dec_set1
  have q3 := dec26_size
  clear hs
  go_enter Try.func14, Try.ntmps14
  go_wp2_with (first | (refine store_last rfl (.tmp 9) (.tmp 12) rfl _ (by simp) _ rfl neg 0 (fun _ => 0) (.slice none 0 0) pt rfl rfl rfl ?_) | (refine load_last rfl (.tmp 9) rfl _ (by simp) neg s.size (dg (nums s)) (.slice none 0 0) pt rfl ?_) | (refine store_2nd rfl (.tmp 8) (.tmp 34) rfl _ rfl _ neg s.size (dg (nums s)) (.slice none 0 0) pt rfl rfl rfl ?_))
  refine bodyPost_ret (v := .agg (dec26 neg s.size (dg (nums s)) (.slice none 0 0) pt)) (results_cell_row Try.results14 _ _ w.heap.size 27 _ (0, 0) _ rfl (heap_alloc2_old w _ _) Try.underlying27 rfl (by rw [Try.info27]; rfl)) rfl ⟨rfl, ((Below.refl _ _).alloc (Nat.le_refl _) _).alloc (by simp) _⟩

/-- What ZZMake makes. -/
theorem make_any (neg lg : Bool) (s : ByteArray) (pt : Int) (w : World) (hm : s.size ≤ 65536) :
    Calls Try.prog 14 #[.bool neg, .string s, .int .i64 pt, .bool lg] w fun e w' => ∃ n f long, e = .returned (.agg (dec26 neg n f long pt)) ∧ long.oneCell' = true ∧ Below w.heap.size w w' ∧
      ((long = .slice none 0 0 ∧ n = (nums s).length ∧ (nums s).length ≤ 22 ∧ f = dg (nums s)) ∨ (∃ g c, long = .slice (some ⟨g, 0, none⟩) (nums s).length c ∧ (nums s).length ≤ c ∧ g < w'.heap.size ∧ Row8 w' g 0 (nums s))) := by
  by_cases h : 22 < s.size ∨ (s.size ≤ 22 ∧ lg = true ∧ 0 < s.size)
  · refine (make_long neg lg s pt w hm h).mono ?_
    rintro e w' ⟨g, c, rfl, h1, h2, h3, h4⟩
    refine ⟨0, fun _ => 0, _, rfl, rfl, h4, .inr ⟨g, c, ?_, ?_, h2, h3⟩⟩
    · rw [nums_length]
    · rw [nums_length]; exact h1
  · have hs : s.size ≤ 22 := by omega
    cases lg
    · refine (make_short neg s pt w hs).mono ?_
      rintro e w' ⟨rfl, hb⟩
      exact ⟨_, _, _, rfl, rfl, hb, .inl ⟨rfl, by rw [nums_length], by rw [nums_length]; exact hs, rfl⟩⟩
    · have h0 : s.size = 0 := by
        rcases Nat.eq_zero_or_pos s.size with h' | h'
        · exact h'
        · exact absurd (.inr ⟨hs, rfl, h'⟩) h
      refine (make_empty neg s pt w h0).mono ?_
      rintro e w' ⟨rfl, hb⟩
      exact ⟨_, _, _, rfl, rfl, hb, .inl ⟨rfl, by rw [nums_length], by rw [nums_length]; exact hs, rfl⟩⟩

theorem DecAt.cell {w : World} {D : Nat} {neg : Bool} {n : Int} {f : Nat → Int} {long : Value} {pt : Int} (h : DecAt w D neg n f long pt) (j : Nat) : w.cell? ⟨D, j, none⟩ = (dec26 neg n f long pt)[j]? := cell_of_row _ _ _ _ _ _ h
theorem DecAt.fr {w : World} {D : Nat} {neg : Bool} {n : Int} {f : Nat → Int} {long : Value} {pt : Int} (h : DecAt w D neg n f long pt) (j : Nat) : w.frozen? ⟨D, j, none⟩ = false := frozen_of_row _ _ _ _ _ h

theorem Try.arrayLen24 : Try.prog.arrayLen 24 = 22 := by kernel_rfl
theorem Try.elem24 : Try.prog.elem 24 = 5 := by kernel_rfl
theorem Try.under24 : Try.prog.underlying 24 = some (.array (Try.prog.arrayLen 24) (Try.prog.elem 24)) := by kernel_rfl
/-- 'd.short[:k]'. -/
theorem slice24 (D k : Nat) (kd : IntKind) (hk : k ≤ 22) (wx : World) : (Instr.sliceAt 24 (.pointer (some ⟨D, 2, none⟩)) none (some (.int kd (k : Int))) none).run Try.prog wx = .ok (.slice (some ⟨D, 2, none⟩) k 22) wx := by
  rw [run_sliceAt_array_h wx 24 ⟨D, 2, none⟩ Try.under24 kd k (by omega) (by rw [Try.arrayLen24]; omega), Try.elem24, Try.size5, Try.arrayLen24]
  simp [Result.andThen, slicedAt, WideShapes.add_plain]

theorem digits_long (D : Nat) (w : World) (g n c : Nat) (h24 : w.cell? ⟨D, 24, none⟩ = some (.slice (some ⟨g, 0, none⟩) n c)) :
    Calls Try.prog 35 #[.pointer (some ⟨D, 0, none⟩)] w fun e w' => e = .returned (.slice (some ⟨g, 0, none⟩) n c) ∧ w' = w := by
  have hnil := fun wx a n c => run_neq_slice_nil (P := Try.prog) wx 25 5 a n c Try.underlying25
  go_enter Try.func35, Try.ntmps35
  go_wp2
  go_ret
  exact ⟨rfl, rfl⟩

theorem digits_short (D : Nat) (w : World) (n : Nat) (hn : n ≤ 22) (h1 : w.cell? ⟨D, 1, none⟩ = some (.int .u8 n)) (h24 : w.cell? ⟨D, 24, none⟩ = some (.slice none 0 0)) :
    Calls Try.prog 35 #[.pointer (some ⟨D, 0, none⟩)] w fun e w' => e = .returned (.slice (some ⟨D, 2, none⟩) n 22) ∧ ∃ q, w' = w.drewN q := by
  have hnil := fun wx a n c => run_neq_slice_nil (P := Try.prog) wx 25 5 a n c Try.underlying25
  have hsl := slice24 D n .u8 hn
  go_enter Try.func35, Try.ntmps35
  go_wp2
  go_quiet (fail)
  go_wp2
  go_ret
  exact ⟨rfl, _, rfl⟩

theorem zzneg_any (D : Nat) (w : World) (b : Bool) (h : w.cell? ⟨D, 0, none⟩ = some (.bool b)) :
    Calls Try.prog 17 #[.pointer (some ⟨D, 0, none⟩)] w fun e w' => e = .returned (.bool b) ∧ w' = w := by
  go_enter Try.func17, Try.ntmps17
  go_wp2
  go_ret
  exact ⟨rfl, rfl⟩
theorem zzpoint_any (D : Nat) (w : World) (p : Int) (h : w.cell? ⟨D, 25, none⟩ = some (.int .i64 p)) :
    Calls Try.prog 18 #[.pointer (some ⟨D, 0, none⟩)] w fun e w' => e = .returned (.int .i64 p) ∧ w' = w := by
  go_enter Try.func18, Try.ntmps18
  go_wp2
  go_ret
  exact ⟨rfl, rfl⟩

set_option maxHeartbeats 1000000 in
/-- 'trimZeros(digits[:k], false)'. -/
theorem trim_any (b off k c : Nat) (ds : List Int) (w : World) (hk : k ≤ ds.length) (hkc : k ≤ c) (hm : k ≤ 65536) (hr : Row8 w b off ds) :
    Calls Try.prog 43 #[.slice (some ⟨b, off, none⟩) k c, .bool false] w fun e w' => e = .returned (.slice (some ⟨b, off, none⟩) (trimN ds k) c) ∧ w' = w := by
  have HR : Hid (Row8 w b off ds) := hr
  clear hr
  go_enter Try.func43, Try.ntmps43
  go_wp2
  go_loop [6] (fun x => ∃ m : Nat, x = .int .i64 m ∧ m ≤ k ∧ Hid (trimN ds m = trimN ds k)) (fun x => (intOf x).toNat)
  case atStart => exact ⟨k, rfl, Nat.le_refl _, rfl⟩
  case round =>
    obtain ⟨m, rfl, hm2, HT⟩ := hrel
    by_cases h0 : m = 0
    · subst h0
      have HZ : Hid (trimN ds k = 0) := HT.out.symm
      go_wp2
      go_ret
      exact ⟨by rw [HZ.out]; rfl, rfl⟩
    · obtain ⟨m, rfl⟩ : ∃ j, m = j + 1 := ⟨m - 1, by omega⟩
      have hpos : (0 : Int) < (m : Int) + 1 := by omega
      obtain ⟨x, HX, hx⟩ : ∃ x, Hid (dg ds m = x) ∧ w.cell? ⟨b, off + m, none⟩ = some (.int .u8 x) := ⟨_, rfl, HR.out m (by omega)⟩
      by_cases hx0 : x = 48
      · subst hx0
        have HT2 : Hid (trimN ds m = trimN ds k) := by
          show _ = _
          rw [← HT.out, trimN, if_pos HX.out]
        clear HT
        go_wp2
        go_round
        case rel => exact ⟨m, by go_num, by omega, HT2.out⟩
        case measure => simp [intOf]
      · have hx0' : (x == 48) = false := by simpa using hx0
        have HT2 : Hid (trimN ds k = m + 1) := by
          show _ = _
          rw [← HT.out, trimN, if_neg (by rw [HX.out]; exact hx0)]
        clear HT
        go_wp2
        go_ret
        exact ⟨by rw [HT2.out]; rfl, rfl⟩
end Go.Proofs.Qxb6600033a
