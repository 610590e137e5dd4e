/-
  THE WALK of Decimal.round.
-/
import Derived.Test.Qxb6600033aDig
import Derived.Deep.RegionWith
namespace Go.Proofs.Qxb6600033a
open Go.RowKit
set_option linter.unusedVariables false
set_option maxRecDepth 100000

/-- Where the digits lie: in the Decimal itself, or in a row of their own. -/
def Src (w : World) (D : Nat) (n : Int) (long : Value) (ds : List Int) (b off c : Nat) : Prop :=
  Row8 w b off ds ∧ ds.length ≤ c ∧ ((long = .slice none 0 0 ∧ b = D ∧ off = 2 ∧ c = 22 ∧ n = ds.length) ∨ (long = .slice (some ⟨b, 0, none⟩) ds.length c ∧ off = 0 ∧ b ≠ D ∧ b < w.heap.size))

theorem digits_src {w : World} {D : Nat} {neg : Bool} {n : Int} {f : Nat → Int} {long : Value} {pt : Int} {ds : List Int} {b off c : Nat} (h : DecAt w D neg n f long pt) (hs : Src w D n long ds b off c) :
    Calls Try.prog 35 #[.pointer (some ⟨D, 0, none⟩)] w fun e w' => e = .returned (.slice (some ⟨b, off, none⟩) ds.length c) ∧ ∃ q, w' = w.drewN q := by
  obtain ⟨h1, h2, h3⟩ := hs
  rcases h3 with ⟨rfl, rfl, rfl, rfl, rfl⟩ | ⟨rfl, rfl, _, _⟩
  · exact digits_short b w ds.length h2 (h.cell 1) (h.cell 24)
  · refine (digits_long D w b ds.length c (h.cell 24)).mono ?_
    rintro e w' ⟨rfl, rfl⟩
    exact ⟨rfl, 0, rfl⟩

/-- keep reaches the digits' count: nothing happens. -/
theorem round_all {D : Nat} {neg : Bool} {n : Int} {f : Nat → Int} {long : Value} {pt : Int} {ds : List Int} {b off c : Nat} (keep : Int) (w : World) (h : DecAt w D neg n f long pt) (hs : Src w D n long ds b off c) (hk : (ds.length : Int) ≤ keep) :
    Calls Try.prog 34 #[.pointer (some ⟨D, 0, none⟩), .int .i64 keep] w fun e w' => e = .returned (.tuple #[]) ∧ ∃ q, w' = w.drewN q := by
  have H : Hid (DecAt w D neg n f long pt ∧ Src w D n long ds b off c) := ⟨h, hs⟩
  clear h hs
  go_enter Try.func34, Try.ntmps34
  go_wp2_with fail
  refine (digits_src H.out.1 H.out.2).mono ?_
  rintro e w1 ⟨rfl, q, hw1⟩
  subst hw1
  go_wp2
  exact bodyPost_ret (v := .tuple #[]) (by simp [results, Try.results34, go_sem]) rfl ⟨rfl, q, rfl⟩

set_option maxHeartbeats 2000000 in
/-- keep < 0: 0 is laid. -/
theorem round_neg {D : Nat} {neg : Bool} {n : Int} {f : Nat → Int} {long : Value} {pt : Int} {ds : List Int} {b off c : Nat} (keep : Int) (w : World) (h : DecAt w D neg n f long pt) (hs : Src w D n long ds b off c) (hk : keep < 0) :
    Calls Try.prog 34 #[.pointer (some ⟨D, 0, none⟩), .int .i64 keep] w fun e w' => e = .returned (.tuple #[]) ∧ ∃ q, w' = (w.drewN q).setRow D (dec26 false 0 (fun _ => 0) (.slice none 0 0) 0) := by
  have H : Hid (DecAt w D neg n f long pt ∧ Src w D n long ds b off c) := ⟨h, hs⟩
  have hk2 : keep < (ds.length : Int) := by omega
  have HD : Hid (∀ q, DecAt (w.drewN q) D neg n f long pt) := fun q => h
  clear h hs
  go_enter Try.func34, Try.ntmps34
  go_wp2_with fail
  refine (digits_src H.out.1 H.out.2).mono ?_
  rintro e w1 ⟨rfl, q, hw1⟩
  subst hw1
  go_wp2_with (first | (refine wpList_store_row rfl 27 (.tmp 20) (.tmp 19) rfl D (dec26 false 0 (fun _ => 0) (.slice none 0 0) 0) rfl rfl 27 (dec26 neg n f long pt) (by exact HD.out _) (by rw [Try.info27]; rfl) rfl (by exact dec26_one _ _ _ _ _ rfl) ?_))
  exact bodyPost_ret (v := .tuple #[]) (by simp [results, Try.results34, go_sem]) rfl ⟨rfl, q, rfl⟩

/-- The tests ahead of the cut, as the walk reads them. -/
def DownTests (k len : Nat) (x y : Int) : Prop :=
  (k = 0 ∧ x < 53) ∨ (k = 0 ∧ x = 53 ∧ len = k + 1) ∨ (0 < k ∧ x < 53) ∨ (0 < k ∧ x = 53 ∧ len = k + 1 ∧ ((y - 48) % 2 == 1) = false)
def UpTests (k len : Nat) (x y : Int) : Prop :=
  (k = 0 ∧ 53 < x) ∨ (k = 0 ∧ x = 53 ∧ k + 1 < len) ∨ (0 < k ∧ 53 < x) ∨ (0 < k ∧ x = 53 ∧ k + 1 < len) ∨ (0 < k ∧ x = 53 ∧ len = k + 1 ∧ ((y - 48) % 2 == 1) = true)

theorem down_tests {ds : List Int} {k : Nat} (hk : k < ds.length) (h : goesUp ds k = false) : DownTests k ds.length (dg ds k) (dg ds (k - 1)) := by
  simp only [goesUp, isHalf, isOdd, Bool.not_eq_false', Bool.or_eq_true, decide_eq_true_eq, Bool.and_eq_true, beq_iff_eq, Bool.not_eq_true', Bool.and_eq_false_iff, decide_eq_false_iff_not] at h
  unfold DownTests
  rcases Nat.eq_zero_or_pos k with h0 | h0
  · rcases h with h | ⟨⟨h1, h2⟩, h3⟩
    · exact .inl ⟨h0, h⟩
    · exact .inr (.inl ⟨h0, h1, h2.symm⟩)
  · rcases h with h | ⟨⟨h1, h2⟩, h3⟩
    · exact .inr (.inr (.inl ⟨h0, h⟩))
    · exact .inr (.inr (.inr ⟨h0, h1, h2.symm, h3.resolve_left (by omega)⟩))
theorem up_tests {ds : List Int} {k : Nat} (hk : k < ds.length) (h : goesUp ds k = true) : UpTests k ds.length (dg ds k) (dg ds (k - 1)) := by
  unfold UpTests
  simp only [goesUp, isHalf, isOdd, Bool.not_eq_true', Bool.or_eq_false_iff, decide_eq_false_iff_not, Bool.and_eq_false_iff, Bool.not_eq_false', Bool.and_eq_true, decide_eq_true_eq, beq_eq_false_iff_ne] at h
  obtain ⟨h1, h2⟩ := h
  rcases Nat.eq_zero_or_pos k with h0 | h0
  · by_cases e : dg ds k = 53
    · rcases h2 with (h2 | h2) | h2
      · exact absurd e h2
      · exact .inr (.inl ⟨h0, e, by omega⟩)
      · omega
    · exact .inl ⟨h0, by omega⟩
  · by_cases e : dg ds k = 53
    · rcases h2 with (h2 | h2) | h2
      · exact absurd e h2
      · exact .inr (.inr (.inr (.inl ⟨h0, e, by omega⟩)))
      · by_cases e2 : ds.length = k + 1
        · exact .inr (.inr (.inr (.inr ⟨h0, e, e2, h2.2⟩)))
        · exact .inr (.inr (.inr (.inl ⟨h0, e, by omega⟩)))
    · exact .inr (.inr (.inl ⟨h0, by omega⟩))

set_option maxHeartbeats 4000000 in
theorem down_short {D : Nat} {neg : Bool} {n : Int} {f : Nat → Int} {long : Value} {pt : Int} {ds : List Int} {b off c : Nat} (k : Nat) (w : World) (h : DecAt w D neg n f long pt) (hs : Src w D n long ds b off c) (hd : IsDig ds) (hk : k < ds.length) (hm : ds.length ≤ 65536) (hl : long = .slice none 0 0) (ht : DownTests k ds.length (dg ds k) (dg ds (k - 1))) :
    Calls Try.prog 34 #[.pointer (some ⟨D, 0, none⟩), .int .i64 k] w fun e w' => e = .returned (.tuple #[]) ∧ ∃ q, w' = (w.drewN q).setCell ⟨D, 1, none⟩ (.int .u8 (trimN ds k : Int)) := by
  obtain ⟨rfl, rfl, rfl, hn⟩ : b = D ∧ off = 2 ∧ c = 22 ∧ n = ds.length := by
    rcases hs.2.2 with ⟨_, h1, h2, h3, h4⟩ | ⟨h1, _⟩
    · exact ⟨h1, h2, h3, h4⟩
    · rw [hl] at h1; simp at h1
  have hsl := slice24 b k .i64 (by have := hs.2.1; omega)
  have ht22 := trimN_le ds k
  have hl22 := hs.2.1
  obtain ⟨x, HX, hx⟩ : ∃ x, Hid (dg ds k = x) ∧ w.cell? ⟨b, 2 + k, none⟩ = some (.int .u8 x) := ⟨_, rfl, hs.1 k hk⟩
  obtain ⟨y, HY, hyd, hy⟩ : ∃ y, Hid (dg ds (k - 1) = y) ∧ (48 ≤ y ∧ y ≤ 57) ∧ (0 < k → w.cell? ⟨b, 2 + (k - 1), none⟩ = some (.int .u8 y)) := ⟨_, rfl, dg_dig hd (by omega), fun h => hs.1 (k - 1) (by omega)⟩
  rw [HX.out, HY.out] at ht
  have c24 : w.cell? ⟨b, 24, none⟩ = some long := h.cell 24
  have f24 : w.frozen? ⟨b, 24, none⟩ = false := h.fr 24
  have c1 : w.cell? ⟨b, 1, none⟩ = some (.int .u8 n) := h.cell 1
  have f1 : w.frozen? ⟨b, 1, none⟩ = false := h.fr 1
  have H : Hid (DecAt w b neg n f long pt ∧ Src w b n long ds b 2 22 ∧ k < ds.length) := ⟨h, hs, hk⟩
  have hnil := fun wx a n c => run_neq_slice_nil (P := Try.prog) wx 25 5 a n c Try.underlying25
  have hk1 : (k : Int) < (ds.length : Int) := by omega
  clear h hs
  subst hl
  rcases ht with ⟨h0, h1⟩ | ⟨h0, h1, h2⟩ | ⟨h0, h1⟩ | ⟨h0, h1, h2, h3⟩
  · have q1 : (x == 53) = false := by simp; omega
    have q3 : decide ((0 : Int) < (k : Int)) = false := decide_eq_false (by omega)
    have q3n : ¬ 0 < k := by omega
    clear h0
    go_enter Try.func34, Try.ntmps34
    go_wp2_with fail
    refine (digits_src H.out.1 H.out.2.1).mono ?_
    rintro e w1 ⟨rfl, q, hw1⟩
    subst hw1
    go_wp2_with fail
    refine (trim_any b 2 k 22 ds _ (by omega) (by omega) (by omega) (by exact H.out.2.1.1)).mono ?_
    rintro e w2 ⟨rfl, hw2⟩
    obtain rfl := hw2.symm
    clear hw2
    go_wp2
    exact bodyPost_ret (v := .tuple #[]) (by simp [results, Try.results34, go_sem]) rfl ⟨rfl, q, rfl⟩
  · have q1 : (x == 53) = true := by simp; omega
    have q1n : ¬ x < 53 := by omega
    have q2 : ((k : Int) == (ds.length : Int) - 1) = true := by simp; omega
    have q3 : decide ((0 : Int) < (k : Int)) = false := decide_eq_false (by omega)
    have q3n : ¬ 0 < k := by omega
    clear h0 h1 h2
    go_enter Try.func34, Try.ntmps34
    go_wp2_with fail
    refine (digits_src H.out.1 H.out.2.1).mono ?_
    rintro e w1 ⟨rfl, q, hw1⟩
    subst hw1
    go_wp2_with fail
    refine (trim_any b 2 k 22 ds _ (by omega) (by omega) (by omega) (by exact H.out.2.1.1)).mono ?_
    rintro e w2 ⟨rfl, hw2⟩
    obtain rfl := hw2.symm
    clear hw2
    go_wp2
    exact bodyPost_ret (v := .tuple #[]) (by simp [results, Try.results34, go_sem]) rfl ⟨rfl, q, rfl⟩
  · have q1 : (x == 53) = false := by simp; omega
    have q3 : (0 : Int) < (k : Int) := by omega
    have hy := hy h0
    go_enter Try.func34, Try.ntmps34
    go_wp2_with fail
    refine (digits_src H.out.1 H.out.2.1).mono ?_
    rintro e w1 ⟨rfl, q, hw1⟩
    subst hw1
    go_wp2_with fail
    refine (trim_any b 2 k 22 ds _ (by omega) (by omega) (by omega) (by exact H.out.2.1.1)).mono ?_
    rintro e w2 ⟨rfl, hw2⟩
    obtain rfl := hw2.symm
    clear hw2
    go_wp2
    exact bodyPost_ret (v := .tuple #[]) (by simp [results, Try.results34, go_sem]) rfl ⟨rfl, q, rfl⟩
  · have q1 : (x == 53) = true := by simp; omega
    have q1n : ¬ x < 53 := by omega
    have q2 : ((k : Int) == (ds.length : Int) - 1) = true := by simp; omega
    have q3 : (0 : Int) < (k : Int) := by omega
    have hy := hy h0
    clear h1 h2
    go_enter Try.func34, Try.ntmps34
    go_wp2_with fail
    refine (digits_src H.out.1 H.out.2.1).mono ?_
    rintro e w1 ⟨rfl, q, hw1⟩
    subst hw1
    go_wp2_with fail
    refine (trim_any b 2 k 22 ds _ (by omega) (by omega) (by omega) (by exact H.out.2.1.1)).mono ?_
    rintro e w2 ⟨rfl, hw2⟩
    obtain rfl := hw2.symm
    clear hw2
    go_wp2
    exact bodyPost_ret (v := .tuple #[]) (by simp [results, Try.results34, go_sem]) rfl ⟨rfl, q, rfl⟩

set_option maxHeartbeats 4000000 in
theorem down_long {D : Nat} {neg : Bool} {n : Int} {f : Nat → Int} {long : Value} {pt : Int} {ds : List Int} {b off c : Nat} (k : Nat) (w : World) (h : DecAt w D neg n f long pt) (hs : Src w D n long ds b off c) (hd : IsDig ds) (hk : k < ds.length) (hm : ds.length ≤ 65536) (hl : long = .slice (some ⟨b, 0, none⟩) ds.length c) (ht : DownTests k ds.length (dg ds k) (dg ds (k - 1))) :
    Calls Try.prog 34 #[.pointer (some ⟨D, 0, none⟩), .int .i64 k] w fun e w' => e = .returned (.tuple #[]) ∧ ∃ q, w' = (w.drewN q).setCell ⟨D, 24, none⟩ (.slice (some ⟨b, 0, none⟩) (trimN ds k) c) := by
  obtain rfl : off = 0 := by
    rcases hs.2.2 with ⟨h1, _⟩ | ⟨_, h2, _⟩
    · rw [hl] at h1; simp at h1
    · exact h2
  have hkc : k ≤ c := by have := hs.2.1; omega
  obtain ⟨x, HX, hx⟩ : ∃ x, Hid (dg ds k = x) ∧ w.cell? ⟨b, 0 + k, none⟩ = some (.int .u8 x) := ⟨_, rfl, hs.1 k hk⟩
  obtain ⟨y, HY, hyd, hy⟩ : ∃ y, Hid (dg ds (k - 1) = y) ∧ (48 ≤ y ∧ y ≤ 57) ∧ (0 < k → w.cell? ⟨b, 0 + (k - 1), none⟩ = some (.int .u8 y)) := ⟨_, rfl, dg_dig hd (by omega), fun h => hs.1 (k - 1) (by omega)⟩
  rw [HX.out, HY.out] at ht
  rw [Nat.zero_add] at hx hy
  have c24 : w.cell? ⟨D, 24, none⟩ = some long := h.cell 24
  have f24 : w.frozen? ⟨D, 24, none⟩ = false := h.fr 24
  have c1 : w.cell? ⟨D, 1, none⟩ = some (.int .u8 n) := h.cell 1
  have f1 : w.frozen? ⟨D, 1, none⟩ = false := h.fr 1
  have H : Hid (DecAt w D neg n f long pt ∧ Src w D n long ds b 0 c ∧ k < ds.length) := ⟨h, hs, hk⟩
  have hnil := fun wx a n c => run_neq_slice_nil (P := Try.prog) wx 25 5 a n c Try.underlying25
  have hk1 : (k : Int) < (ds.length : Int) := by omega
  clear h hs
  subst hl
  rcases ht with ⟨h0, h1⟩ | ⟨h0, h1, h2⟩ | ⟨h0, h1⟩ | ⟨h0, h1, h2, h3⟩
  · have q1 : (x == 53) = false := by simp; omega
    have q3 : decide ((0 : Int) < (k : Int)) = false := decide_eq_false (by omega)
    have q3n : ¬ 0 < k := by omega
    clear h0
    go_enter Try.func34, Try.ntmps34
    go_wp2_with fail
    refine (digits_src H.out.1 H.out.2.1).mono ?_
    rintro e w1 ⟨rfl, q, hw1⟩
    subst hw1
    go_wp2_with fail
    refine (trim_any b 0 k c ds _ (by omega) hkc (by omega) (by exact H.out.2.1.1)).mono ?_
    rintro e w2 ⟨rfl, hw2⟩
    obtain rfl := hw2.symm
    clear hw2
    go_wp2
    exact bodyPost_ret (v := .tuple #[]) (by simp [results, Try.results34, go_sem]) rfl ⟨rfl, q, rfl⟩
  · have q1 : (x == 53) = true := by simp; omega
    have q1n : ¬ x < 53 := by omega
    have q2 : ((k : Int) == (ds.length : Int) - 1) = true := by simp; omega
    have q3 : decide ((0 : Int) < (k : Int)) = false := decide_eq_false (by omega)
    have q3n : ¬ 0 < k := by omega
    clear h0 h1 h2
    go_enter Try.func34, Try.ntmps34
    go_wp2_with fail
    refine (digits_src H.out.1 H.out.2.1).mono ?_
    rintro e w1 ⟨rfl, q, hw1⟩
    subst hw1
    go_wp2_with fail
    refine (trim_any b 0 k c ds _ (by omega) hkc (by omega) (by exact H.out.2.1.1)).mono ?_
    rintro e w2 ⟨rfl, hw2⟩
    obtain rfl := hw2.symm
    clear hw2
    go_wp2
    exact bodyPost_ret (v := .tuple #[]) (by simp [results, Try.results34, go_sem]) rfl ⟨rfl, q, rfl⟩
  · have q1 : (x == 53) = false := by simp; omega
    have q3 : (0 : Int) < (k : Int) := by omega
    have hy := hy h0
    go_enter Try.func34, Try.ntmps34
    go_wp2_with fail
    refine (digits_src H.out.1 H.out.2.1).mono ?_
    rintro e w1 ⟨rfl, q, hw1⟩
    subst hw1
    go_wp2_with fail
    refine (trim_any b 0 k c ds _ (by omega) hkc (by omega) (by exact H.out.2.1.1)).mono ?_
    rintro e w2 ⟨rfl, hw2⟩
    obtain rfl := hw2.symm
    clear hw2
    go_wp2
    exact bodyPost_ret (v := .tuple #[]) (by simp [results, Try.results34, go_sem]) rfl ⟨rfl, q, rfl⟩
  · have q1 : (x == 53) = true := by simp; omega
    have q1n : ¬ x < 53 := by omega
    have q2 : ((k : Int) == (ds.length : Int) - 1) = true := by simp; omega
    have q3 : (0 : Int) < (k : Int) := by omega
    have hy := hy h0
    clear h1 h2
    go_enter Try.func34, Try.ntmps34
    go_wp2_with fail
    refine (digits_src H.out.1 H.out.2.1).mono ?_
    rintro e w1 ⟨rfl, q, hw1⟩
    subst hw1
    go_wp2_with fail
    refine (trim_any b 0 k c ds _ (by omega) hkc (by omega) (by exact H.out.2.1.1)).mono ?_
    rintro e w2 ⟨rfl, hw2⟩
    obtain rfl := hw2.symm
    clear hw2
    go_wp2
    exact bodyPost_ret (v := .tuple #[]) (by simp [results, Try.results34, go_sem]) rfl ⟨rfl, q, rfl⟩

end Go.Proofs.Qxb6600033a
