/-
  THE WALK of FnHoldingTierCoversDays.
-/
import Derived.Test.Qxb6002460aTier
import Derived.Laws.StructEq
namespace Go.Proofs.Qxb6002460a
open Go.RowKit
set_option linter.unusedVariables false
set_option maxRecDepth 100000

theorem Tab.below {w w' : World} {g n : Nat} {zs : List Int} {f : Nat → ByteArray} (h : Tab w g zs f n) (hb : Below w.heap.size w w') : Tab w' g zs f n := fun i hi => by
  obtain ⟨h0, h1, h2, h3⟩ := h i hi
  refine ⟨?_, ?_, ?_, ?_⟩
  · rw [hb.cell (World.block_lt_of_cell? w _ h0)]; exact h0
  · rw [hb.cell (World.block_lt_of_cell? w _ h1)]; exact h1
  · rw [hb.cell (World.block_lt_of_cell? w _ h2)]; exact h2
  · rw [hb.cell (World.block_lt_of_cell? w _ h3)]; exact h3

theorem asc_lt {zs : List Int} {n : Nat} (h : ascTo zs n) : ∀ j i, i < j → j < n → zs.getD i 0 < zs.getD j 0 := by
  intro j
  induction j with
  | zero => intro i hi; omega
  | succ j ih =>
    intro i hi hj
    have h1 := h (j + 1) (by omega) hj
    rw [show j + 1 - 1 = j from rfl] at h1
    by_cases e : i = j
    · subst e; exact h1
    · have := ih i (by omega) (by omega); omega

theorem asc_ne {zs : List Int} {n k : Nat} (h : ascTo zs n) (hk : k < n) : ∀ i, i < k → zs.getD i 0 ≠ zs.getD k 0 := fun i hi => by
  have := asc_lt h k i hi hk; omega

theorem neq_tier (x : Int) (s : ByteArray) (w : World) : (binOp .neq 35 (.agg #[.int .i64 x, .int .i64 0, .int .i8 0, .string s]) (.agg #[.int .i64 x, .int .i64 0, .int .i8 0, .string s])).run Try.prog w = .ok (.bool false) w := by
  simp [go_sem]

set_option maxHeartbeats 2000000 in
theorem covers_main (b off n c : Nat) (zs : List Int) (days : Int) (w : World) (hc : Nums w b off zs) (hl : zs.length = n) (hn : n ≤ 65536) (h1 : 1 ≤ n) :
    Calls Try.prog 4 #[.slice (some ⟨b, off, none⟩) n c, .int .i64 days] w fun e w' => e = .returned (.bool true) ∧ Below w.heap.size w w' := by
  have HC : Hid (Nums w b off zs ∧ zs.length = n) := ⟨hc, hl⟩
  clear hc hl
  have hn0 : ((n : Int) == 0) = false := by simp; omega
  have hneq := neq_tier
  go_enter Try.func4, Try.ntmps4
  go_wp2_with (first | (go_at_call 9; go_in))
  refine (asc_any b off n c zs _ HC.out.1 HC.out.2 hn h1).mono ?_
  rintro e w1 ⟨r, q, rfl, hw1, hasc⟩
  have HN1 : Hid (Nums w1 b off zs ∧ Below w.heap.size w w1) := by
    subst hw1
    exact ⟨HC.out.1, below_drewN (Below.refl _ _) _⟩
  clear hw1
  cases r
  · go_wp2
    go_ret
    exact ⟨rfl, HN1.out.2⟩
  · have HA : Hid (ascTo zs n) := hasc rfl
    clear hasc
    go_wp2_with fail
    refine (copy_any b off n c zs _ HC.out.2 hn HN1.out.1 h1).mono ?_
    rintro e w2 ⟨rfl, hc2, hb2⟩
    have HN2 : Hid (Nums w2 w1.heap.size 0 zs ∧ Below w.heap.size w w2) := ⟨hc2, HN1.out.2.trans (hb2.mono HN1.out.2.size)⟩
    clear hc2 hb2 HN1
    generalize w1.heap.size = b2 at *
    go_wp2_with fail
    refine (build_any b2 n n zs _ HN2.out.1 HC.out.2 hn h1).mono ?_
    rintro e w3 ⟨f, rfl, ht3, hb3⟩
    have HN3 : Hid (Nums w3 b2 0 zs ∧ Tab w3 w2.heap.size zs f n ∧ Below w.heap.size w w3) := ⟨HN2.out.1.below hb3, ht3, HN2.out.2.trans (hb3.mono HN2.out.2.size)⟩
    clear ht3 hb3 HN2
    generalize w2.heap.size = g at *
    go_wp2_with fail
    refine (tier_any g n zs f days _ HN3.out.2.1 hn h1).mono ?_
    rintro e w4 ⟨k, hk, hk1, hk2, rfl, hb4⟩
    have HN4 : Hid (Nums w4 b2 0 zs ∧ Tab w4 g zs f n ∧ Below w.heap.size w w4 ∧ (k = 0 ∨ zs.getD k 0 ≤ days) ∧ ∀ i, k < i → i < n → days < zs.getD i 0) := ⟨HN3.out.1.below hb4, HN3.out.2.1.below hb4, HN3.out.2.2.trans (hb4.mono HN3.out.2.2.size), hk1, hk2⟩
    clear hb4 HN3 hk1 hk2
    obtain ⟨x, HX⟩ : ∃ x, Hid (zs.getD k 0 = x) := ⟨_, rfl⟩
    rw [show zs.getD k 0 = x from HX.out]
    go_wp2_with fail
    have HB5 : Hid (Below w4.heap.size w4 (w4.alloc (.cells #[.int .i64 x, .int .i64 0, .int .i8 0, .string (f k)] 35))) := (Below.refl _ _).alloc (Nat.le_refl _) _
    refine (index_any b2 0 n n k zs x _ (HN4.out.1.below HB5.out) HC.out.2 hn hk HX.out (by rw [← HX.out]; exact asc_ne HA.out hk)).mono ?_
    rintro e w5 ⟨rfl, hw5⟩
    obtain rfl := hw5.symm
    clear hw5
    obtain ⟨t0, t1, t2, t3⟩ := HN4.out.2.1 k hk
    rw [show zs.getD k 0 = x from HX.out] at t0
    have hg : g < w4.heap.size := World.block_lt_of_cell? w4 _ t0
    have hb2 : b2 < w4.heap.size := World.block_lt_of_cell? w4 _ (HN4.out.1 0 (by rw [HC.out.2]; omega))
    have hk' : (k : Int) < (n : Int) := by omega
    have d0 : w4.cell? ⟨b2, k, none⟩ = some (.int .i64 x) := by
      have h := HN4.out.1 k (by rw [HC.out.2]; exact hk)
      rw [Nat.zero_add, show zs.getD k 0 = x from HX.out] at h
      exact h
    have hxd : 0 < k → x ≤ days := fun h => by
      rcases HN4.out.2.2.2.1 with h' | h'
      · omega
      · rw [← HX.out]; exact h'
    by_cases hk0 : 0 < k
    · have hxd' := hxd hk0
      have hk0' : (0 : Int) < (k : Int) := by omega
      clear hxd
      by_cases hk1 : k + 1 < n
      · obtain ⟨y, hy, hyd⟩ : ∃ y, w4.cell? ⟨b2, k + 1, none⟩ = some (.int .i64 y) ∧ days < y := by
          have h := HN4.out.1 (k + 1) (by rw [HC.out.2]; exact hk1)
          rw [Nat.zero_add] at h
          exact ⟨_, h, HN4.out.2.2.2.2 (k + 1) (by omega) hk1⟩
        have hk1' : (k : Int) + 1 < (n : Int) := by omega
        go_wp2_with fail
        go_quiet (fail)
        go_wp2
        go_ret
        exact ⟨rfl, below_drewN (HN4.out.2.2.1.trans (HB5.out.mono HN4.out.2.2.1.size)) _⟩
      · have hk1' : decide ((k : Int) + 1 < (n : Int)) = false := by simp; omega
        go_wp2_with fail
        go_quiet (fail)
        go_wp2
        go_ret
        exact ⟨rfl, below_drewN (HN4.out.2.2.1.trans (HB5.out.mono HN4.out.2.2.1.size)) _⟩
    · have hk0' : decide ((0 : Int) < (k : Int)) = false := by simp; omega
      clear hxd
      by_cases hk1 : k + 1 < n
      · obtain ⟨y, hy, hyd⟩ : ∃ y, w4.cell? ⟨b2, k + 1, none⟩ = some (.int .i64 y) ∧ days < y := by
          have h := HN4.out.1 (k + 1) (by rw [HC.out.2]; exact hk1)
          rw [Nat.zero_add] at h
          exact ⟨_, h, HN4.out.2.2.2.2 (k + 1) (by omega) hk1⟩
        have hk1' : (k : Int) + 1 < (n : Int) := by omega
        go_wp2_with fail
        go_quiet (fail)
        go_wp2
        go_ret
        exact ⟨rfl, below_drewN (HN4.out.2.2.1.trans (HB5.out.mono HN4.out.2.2.1.size)) _⟩
      · have hk1' : decide ((k : Int) + 1 < (n : Int)) = false := by simp; omega
        go_wp2_with fail
        go_quiet (fail)
        go_wp2
        go_ret
        exact ⟨rfl, below_drewN (HN4.out.2.2.1.trans (HB5.out.mono HN4.out.2.2.1.size)) _⟩
end Go.Proofs.Qxb6002460a
