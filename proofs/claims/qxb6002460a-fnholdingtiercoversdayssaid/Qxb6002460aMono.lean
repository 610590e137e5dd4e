/-
  THE WALK of FnHoldingTierMonotoneInDays.
-/
import Derived.Test.Qxb6002460aCovers
namespace Go.Proofs.Qxb6002460a
open Go.RowKit
set_option linter.unusedVariables false
set_option maxRecDepth 100000

set_option maxHeartbeats 4000000 in
theorem mono_main (b off n c : Nat) (zs : List Int) (d1 d2 : Int) (w : World) (hc : Nums w b off zs) (hl : zs.length = n) (hn : n ≤ 65536) (h1 : 1 ≤ n) :
    Calls Try.prog 5 #[.slice (some ⟨b, off, none⟩) n c, .int .i64 d1, .int .i64 d2] w fun e w' => e = .returned (.bool true) ∧ Below w.heap.size w w' := by
  have HC : Hid (Nums w b off zs ∧ zs.length = n) := ⟨hc, hl⟩
  clear hc hl
  have hn0 : ((n : Int) == 0) = false := by simp; omega
  have hneq := neq_tier
  go_enter Try.func5, Try.ntmps5
  go_wp2_with (first | (go_at_call 15; go_in))
  refine (asc_any b off n c zs _ HC.out.1 HC.out.2 hn h1).mono ?_
  rintro e w1 ⟨r, q, rfl, hw1, hasc⟩
  have HN1 : Hid (Nums w1 b off zs ∧ Below w.heap.size w w1) := by
    subst hw1
    exact ⟨HC.out.1, below_drewN (Below.refl _ _) _⟩
  clear hw1
  cases r
  · go_wp2
    go_ret
    exact ⟨rfl, HN1.out.2⟩
  · have HA : Hid (ascTo zs n) := hasc rfl
    clear hasc
    go_wp2_with fail
    refine (copy_any b off n c zs _ HC.out.2 hn HN1.out.1 h1).mono ?_
    rintro e w2 ⟨rfl, hc2, hb2⟩
    have HN2 : Hid (Nums w2 w1.heap.size 0 zs ∧ Below w.heap.size w w2) := ⟨hc2, HN1.out.2.trans (hb2.mono HN1.out.2.size)⟩
    clear hc2 hb2 HN1
    generalize w1.heap.size = b2 at *
    by_cases hd : d2 < d1
    · have hdle : d2 ≤ d1 := by omega
      go_wp2_with fail
      refine (build_any b2 n n zs _ HN2.out.1 HC.out.2 hn h1).mono ?_
      rintro e w3 ⟨f, rfl, ht3, hb3⟩
      have HN3 : Hid (Nums w3 b2 0 zs ∧ Tab w3 w2.heap.size zs f n ∧ Below w.heap.size w w3) := ⟨HN2.out.1.below hb3, ht3, HN2.out.2.trans (hb3.mono HN2.out.2.size)⟩
      clear ht3 hb3 HN2
      generalize w2.heap.size = g at *
      go_wp2_with fail
      refine (tier_any g n zs f d2 _ HN3.out.2.1 hn h1).mono ?_
      rintro e w4 ⟨k, hk, hk1, hk2, rfl, hb4⟩
      have HN4 : Hid (Nums w4 b2 0 zs ∧ Tab w4 g zs f n ∧ Below w.heap.size w w4 ∧ (k = 0 ∨ zs.getD k 0 ≤ d2) ∧ ∀ i, k < i → i < n → d2 < zs.getD i 0) := ⟨HN3.out.1.below hb4, HN3.out.2.1.below hb4, HN3.out.2.2.trans (hb4.mono HN3.out.2.2.size), hk1, hk2⟩
      clear hb4 HN3 hk1 hk2
      obtain ⟨x, HX⟩ : ∃ x, Hid (zs.getD k 0 = x) := ⟨_, rfl⟩
      rw [show zs.getD k 0 = x from HX.out]
      go_wp2_with fail
      have HB5 : Hid (Below w4.heap.size w4 (w4.alloc (.cells #[.int .i64 x, .int .i64 0, .int .i8 0, .string (f k)] 35))) := (Below.refl _ _).alloc (Nat.le_refl _) _
      refine (tier_any g n zs f d1 _ (HN4.out.2.1.below HB5.out) hn h1).mono ?_
      rintro e w5 ⟨m, hm, hm1, hm2, rfl, hb5⟩
      have hp0 : w5.cell? ⟨w4.heap.size, 0, none⟩ = some (.int .i64 x) := by rw [hb5.cell (by simp)]; simp
      have hp1 : w5.cell? ⟨w4.heap.size, 1, none⟩ = some (.int .i64 0) := by rw [hb5.cell (by simp)]; simp
      have hp2 : w5.cell? ⟨w4.heap.size, 2, none⟩ = some (.int .i8 0) := by rw [hb5.cell (by simp)]; simp
      have hp3 : w5.cell? ⟨w4.heap.size, 3, none⟩ = some (.string (f k)) := by rw [hb5.cell (by simp)]; simp
      have hp : w4.heap.size < w5.heap.size := World.block_lt_of_cell? w5 _ hp0
      have HLE : Hid (k ≤ m) := by
        show k ≤ m
        rcases Nat.lt_or_ge m k with h | h
        · have h3 := hm2 k h hk
          rcases HN4.out.2.2.2.1 with h' | h'
          · omega
          · omega
        · exact h
      have HN5 : Hid (Nums w5 b2 0 zs ∧ Tab w5 g zs f n ∧ Below w.heap.size w w5) := by
        have hb : Below w4.heap.size w4 w5 := HB5.out.trans (hb5.mono (by simp))
        exact ⟨HN4.out.1.below hb, HN4.out.2.1.below hb, HN4.out.2.2.1.trans (hb.mono HN4.out.2.2.1.size)⟩
      clear hb5 HB5 hm1 hm2 HN4
      generalize w4.heap.size = p1 at *
      obtain ⟨y, HY⟩ : ∃ y, Hid (zs.getD m 0 = y) := ⟨_, rfl⟩
      rw [show zs.getD m 0 = y from HY.out]
      go_wp2_with fail
      have HB6 : Hid (Below w5.heap.size w5 (w5.alloc (.cells #[.int .i64 y, .int .i64 0, .int .i8 0, .string (f m)] 35))) := (Below.refl _ _).alloc (Nat.le_refl _) _
      refine (index_any b2 0 n n k zs x _ (HN5.out.1.below HB6.out) HC.out.2 hn hk HX.out (by rw [← HX.out]; exact asc_ne HA.out hk)).mono ?_
      rintro e w6 ⟨rfl, hw6⟩
      obtain rfl := hw6.symm
      clear hw6
      go_wp2_with fail
      refine (index_any b2 0 n n m zs y _ (HN5.out.1.below HB6.out) HC.out.2 hn hm HY.out (by rw [← HY.out]; exact asc_ne HA.out hm)).mono ?_
      rintro e w7 ⟨rfl, hw7⟩
      obtain rfl := hw7.symm
      clear hw7
      obtain ⟨t0, t1, t2, t3⟩ := HN5.out.2.1 k hk
      rw [show zs.getD k 0 = x from HX.out] at t0
      obtain ⟨s0, s1, s2, s3⟩ := HN5.out.2.1 m hm
      rw [show zs.getD m 0 = y from HY.out] at s0
      have hg : g < w5.heap.size := World.block_lt_of_cell? w5 _ t0
      have hk' : (k : Int) < (n : Int) := by omega
      have hm' : (m : Int) < (n : Int) := by omega
      have hle : (k : Int) ≤ (m : Int) := by have := HLE.out; omega
      go_wp2_with fail
      go_quiet (fail)
      go_wp2
      go_ret
      exact ⟨rfl, below_drewN (HN5.out.2.2.trans (HB6.out.mono HN5.out.2.2.size)) _⟩
    · have hdle : d1 ≤ d2 := by omega
      go_wp2_with fail
      refine (build_any b2 n n zs _ HN2.out.1 HC.out.2 hn h1).mono ?_
      rintro e w3 ⟨f, rfl, ht3, hb3⟩
      have HN3 : Hid (Nums w3 b2 0 zs ∧ Tab w3 w2.heap.size zs f n ∧ Below w.heap.size w w3) := ⟨HN2.out.1.below hb3, ht3, HN2.out.2.trans (hb3.mono HN2.out.2.size)⟩
      clear ht3 hb3 HN2
      generalize w2.heap.size = g at *
      go_wp2_with fail
      refine (tier_any g n zs f d1 _ HN3.out.2.1 hn h1).mono ?_
      rintro e w4 ⟨k, hk, hk1, hk2, rfl, hb4⟩
      have HN4 : Hid (Nums w4 b2 0 zs ∧ Tab w4 g zs f n ∧ Below w.heap.size w w4 ∧ (k = 0 ∨ zs.getD k 0 ≤ d1) ∧ ∀ i, k < i → i < n → d1 < zs.getD i 0) := ⟨HN3.out.1.below hb4, HN3.out.2.1.below hb4, HN3.out.2.2.trans (hb4.mono HN3.out.2.2.size), hk1, hk2⟩
      clear hb4 HN3 hk1 hk2
      obtain ⟨x, HX⟩ : ∃ x, Hid (zs.getD k 0 = x) := ⟨_, rfl⟩
      rw [show zs.getD k 0 = x from HX.out]
      go_wp2_with fail
      have HB5 : Hid (Below w4.heap.size w4 (w4.alloc (.cells #[.int .i64 x, .int .i64 0, .int .i8 0, .string (f k)] 35))) := (Below.refl _ _).alloc (Nat.le_refl _) _
      refine (tier_any g n zs f d2 _ (HN4.out.2.1.below HB5.out) hn h1).mono ?_
      rintro e w5 ⟨m, hm, hm1, hm2, rfl, hb5⟩
      have hp0 : w5.cell? ⟨w4.heap.size, 0, none⟩ = some (.int .i64 x) := by rw [hb5.cell (by simp)]; simp
      have hp1 : w5.cell? ⟨w4.heap.size, 1, none⟩ = some (.int .i64 0) := by rw [hb5.cell (by simp)]; simp
      have hp2 : w5.cell? ⟨w4.heap.size, 2, none⟩ = some (.int .i8 0) := by rw [hb5.cell (by simp)]; simp
      have hp3 : w5.cell? ⟨w4.heap.size, 3, none⟩ = some (.string (f k)) := by rw [hb5.cell (by simp)]; simp
      have hp : w4.heap.size < w5.heap.size := World.block_lt_of_cell? w5 _ hp0
      have HLE : Hid (k ≤ m) := by
        show k ≤ m
        rcases Nat.lt_or_ge m k with h | h
        · have h3 := hm2 k h hk
          rcases HN4.out.2.2.2.1 with h' | h'
          · omega
          · omega
        · exact h
      have HN5 : Hid (Nums w5 b2 0 zs ∧ Tab w5 g zs f n ∧ Below w.heap.size w w5) := by
        have hb : Below w4.heap.size w4 w5 := HB5.out.trans (hb5.mono (by simp))
        exact ⟨HN4.out.1.below hb, HN4.out.2.1.below hb, HN4.out.2.2.1.trans (hb.mono HN4.out.2.2.1.size)⟩
      clear hb5 HB5 hm1 hm2 HN4
      generalize w4.heap.size = p1 at *
      obtain ⟨y, HY⟩ : ∃ y, Hid (zs.getD m 0 = y) := ⟨_, rfl⟩
      rw [show zs.getD m 0 = y from HY.out]
      go_wp2_with fail
      have HB6 : Hid (Below w5.heap.size w5 (w5.alloc (.cells #[.int .i64 y, .int .i64 0, .int .i8 0, .string (f m)] 35))) := (Below.refl _ _).alloc (Nat.le_refl _) _
      refine (index_any b2 0 n n k zs x _ (HN5.out.1.below HB6.out) HC.out.2 hn hk HX.out (by rw [← HX.out]; exact asc_ne HA.out hk)).mono ?_
      rintro e w6 ⟨rfl, hw6⟩
      obtain rfl := hw6.symm
      clear hw6
      go_wp2_with fail
      refine (index_any b2 0 n n m zs y _ (HN5.out.1.below HB6.out) HC.out.2 hn hm HY.out (by rw [← HY.out]; exact asc_ne HA.out hm)).mono ?_
      rintro e w7 ⟨rfl, hw7⟩
      obtain rfl := hw7.symm
      clear hw7
      obtain ⟨t0, t1, t2, t3⟩ := HN5.out.2.1 k hk
      rw [show zs.getD k 0 = x from HX.out] at t0
      obtain ⟨s0, s1, s2, s3⟩ := HN5.out.2.1 m hm
      rw [show zs.getD m 0 = y from HY.out] at s0
      have hg : g < w5.heap.size := World.block_lt_of_cell? w5 _ t0
      have hk' : (k : Int) < (n : Int) := by omega
      have hm' : (m : Int) < (n : Int) := by omega
      have hle : (k : Int) ≤ (m : Int) := by have := HLE.out; omega
      go_wp2_with fail
      go_quiet (fail)
      go_wp2
      go_ret
      exact ⟨rfl, below_drewN (HN5.out.2.2.trans (HB6.out.mono HN5.out.2.2.size)) _⟩
end Go.Proofs.Qxb6002460a
