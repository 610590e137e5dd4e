/-
  THE WALKS of HoldingTable.Tier and zzTermsG1BuildTable.
-/
import Derived.Test.Qxb6002460aBase
namespace Go.Proofs.Qxb6002460a
open Go.RowKit
set_option linter.unusedVariables false
set_option maxRecDepth 100000

/-- The tiers over 'zs' lie at block g, from its head on; tier i's text is 'f i'. -/
def Tab (w : World) (g : Nat) (zs : List Int) (f : Nat → ByteArray) (n : Nat) : Prop :=
  ∀ i, i < n → w.cell? ⟨g, i * 4, none⟩ = some (.int .i64 (zs.getD i 0)) ∧ w.cell? ⟨g, i * 4 + 1, none⟩ = some (.int .i64 0) ∧
    w.cell? ⟨g, i * 4 + 2, none⟩ = some (.int .i8 0) ∧ w.cell? ⟨g, i * 4 + 3, none⟩ = some (.string (f i))

theorem Try.info35 : (Try.prog.info? 35).map (fun i => (i.zero, i.size, i.bytes)) = some (some (.agg #[.int .i64 0, .int .i64 0, .int .i8 0, .string ⟨#[]⟩]), 4, 40) := by kernel_rfl

theorem tier_ret {a x : Int} {s : ByteArray} (h : a = x) : Ending.returned (.agg #[.int .i64 x, .int .i64 0, .int .i8 0, .string s]) = .returned (.agg #[.int .i64 a, .int .i64 0, .int .i8 0, .string s]) := by rw [h]

set_option maxHeartbeats 1000000 in
theorem tier_any (g n : Nat) (zs : List Int) (f : Nat → ByteArray) (days : Int) (w : World) (ht : Tab w g zs f n) (hn : n ≤ 65536) (h1 : 1 ≤ n) :
    Calls Try.prog 13 #[.slice (some ⟨g, 0, none⟩) n n, .int .i64 days] w fun e w' => ∃ k, k < n ∧ (k = 0 ∨ zs.getD k 0 ≤ days) ∧ (∀ i, k < i → i < n → days < zs.getD i 0) ∧
      e = .returned (.agg #[.int .i64 (zs.getD k 0), .int .i64 0, .int .i8 0, .string (f k)]) ∧ Below w.heap.size w w' := by
  have HT : Hid (Tab w g zs f n) := ht
  have hg : g < w.heap.size := World.block_lt_of_cell? w _ (ht 0 (by omega)).1
  clear ht
  obtain ⟨n, rfl⟩ : ∃ m, n = m + 1 := ⟨n - 1, by omega⟩
  go_enter Try.func13, Try.ntmps13
  go_wp2
  go_loop [5] (fun i => ∃ j : Nat, j ≤ n ∧ i = .int .i64 j ∧ Hid (∀ i, j < i → i < n + 1 → days < zs.getD i 0)) (fun i => (intOf i).toNat)
  case atStart => exact ⟨n, Nat.le_refl _, rfl, fun i h1 h2 => by omega⟩
  case round =>
    obtain ⟨j, hj, rfl, HD⟩ := hrel
    obtain ⟨x, HX, hx0, hx1, hx2, hx3⟩ : ∃ x, Hid (zs.getD j 0 = x) ∧ w.cell? ⟨g, j * 4, none⟩ = some (.int .i64 x) ∧ w.cell? ⟨g, j * 4 + 1, none⟩ = some (.int .i64 0) ∧
      w.cell? ⟨g, j * 4 + 2, none⟩ = some (.int .i8 0) ∧ w.cell? ⟨g, j * 4 + 3, none⟩ = some (.string (f j)) := ⟨_, rfl, HT.out j (by omega)⟩
    by_cases hj0 : 0 < j
    · by_cases hlt : days < x
      · obtain ⟨j, rfl⟩ : ∃ i, j = i + 1 := ⟨j - 1, by omega⟩
        have HD1 : Hid (∀ i, j < i → i < n + 1 → days < zs.getD i 0) := fun i h1 h2 => by
          by_cases e : i = j + 1
          · rw [e, HX.out]; exact hlt
          · exact HD.out i (by omega) h2
        go_wp2
        go_round
        case rel => exact ⟨j, by omega, by go_num, HD1.out⟩
        case measure => simp [intOf]
      · go_wp2
        refine bodyPost_ret (v := .agg #[.int .i64 x, .int .i64 0, .int .i8 0, .string (f j)]) (by simp [results, Try.results13, go_sem]) rfl ⟨j, by omega, .inr (show zs.getD j 0 ≤ days by rw [HX.out]; omega), HD.out, tier_ret HX.out, (Below.refl _ _).alloc (Nat.le_refl _) _⟩
    · obtain rfl : j = 0 := by omega
      have hx0' : w.cell? ⟨g, 0, none⟩ = some (.int .i64 x) := by simpa using hx0
      have hx1' : w.cell? ⟨g, 1, none⟩ = some (.int .i64 0) := by simpa using hx1
      have hx2' : w.cell? ⟨g, 2, none⟩ = some (.int .i8 0) := by simpa using hx2
      have hx3' : w.cell? ⟨g, 3, none⟩ = some (.string (f 0)) := by simpa using hx3
      go_wp2
      refine bodyPost_ret (v := .agg #[.int .i64 x, .int .i64 0, .int .i8 0, .string (f 0)]) (by simp [results, Try.results13, go_sem]) rfl ⟨0, by omega, .inl rfl, HD.out, tier_ret HX.out, (Below.refl _ _).alloc (Nat.le_refl _) _⟩

theorem below_undrew {wr w2 : World} (h : Below wr.drew.heap.size wr.drew w2) : Below wr.heap.size wr w2 := ⟨h.os, h.tape, h.output, h.size, h.block⟩

theorem size_setCells (b : Nat) : ∀ (vs : List Value) (o : Nat) (w : World), (w.setCells b o vs).heap.size = w.heap.size
  | [], _, _ => rfl
  | v :: r, o, w => by rw [World.setCells, size_setCells b r]; simp [World.setCell]

theorem below_setCells {B : Nat} {a : World} (b : Nat) (hb : B ≤ b) : ∀ (vs : List Value) (o : Nat) (w : World), Below B a w → Below B a (w.setCells b o vs)
  | [], _, _, h => h
  | v :: r, o, w, h => by rw [World.setCells]; exact below_setCells b hb r _ _ (h.setCell hb _)

/-- What one round of the loop does to what has been built. -/
theorem build_step (n k : Nat) (zs : List Int) (f : Nat → ByteArray) (w wr w2 : World) (x : Int) (s : ByteArray) (hk : k < n) (hx : zs.getD k 0 = x) (hB : w.heap.size < wr.heap.size)
    (hR : Tab wr w.heap.size zs f k ∧ (∀ j, j < n * 4 → ∃ v, wr.cell? ⟨w.heap.size, j, none⟩ = some v) ∧ (∀ j, wr.frozen? ⟨w.heap.size, j, none⟩ = false) ∧ Below w.heap.size w wr) (hb2 : Below wr.heap.size wr w2) :
    w.heap.size < (w2.setCells w.heap.size (k * 4) [.int .i64 x, .int .i64 0, .int .i8 0, .string s]).heap.size ∧
    (Tab (w2.setCells w.heap.size (k * 4) [.int .i64 x, .int .i64 0, .int .i8 0, .string s]) w.heap.size zs (fun i => if i = k then s else f i) (k + 1) ∧
      (∀ j, j < n * 4 → ∃ v, (w2.setCells w.heap.size (k * 4) [.int .i64 x, .int .i64 0, .int .i8 0, .string s]).cell? ⟨w.heap.size, j, none⟩ = some v) ∧
      (∀ j, (w2.setCells w.heap.size (k * 4) [.int .i64 x, .int .i64 0, .int .i8 0, .string s]).frozen? ⟨w.heap.size, j, none⟩ = false) ∧
      Below w.heap.size w (w2.setCells w.heap.size (k * 4) [.int .i64 x, .int .i64 0, .int .i8 0, .string s])) := by
  obtain ⟨h1, h2, h3, h4⟩ := hR
  have old : ∀ j, w2.cell? ⟨w.heap.size, j, none⟩ = wr.cell? ⟨w.heap.size, j, none⟩ := fun j => hb2.cell (by exact hB)
  have inn := World.cell?_setCells_in w.heap.size [.int .i64 x, .int .i64 0, .int .i8 0, .string s] (k * 4) w2 (by
    intro j hj
    simp at hj
    obtain ⟨v, hv⟩ := h2 (k * 4 + j) (by omega)
    rw [old, hv]; rfl)
  have out : ∀ j, (j < k * 4 ∨ k * 4 + 4 ≤ j) → (w2.setCells w.heap.size (k * 4) [.int .i64 x, .int .i64 0, .int .i8 0, .string s]).cell? ⟨w.heap.size, j, none⟩ = wr.cell? ⟨w.heap.size, j, none⟩ := by
    intro j hj
    rw [World.cell?_setCells_out _ _ _ _ _ (fun _ _ => by simpa using hj)]
    exact old j
  refine ⟨by rw [size_setCells]; have := hb2.size; omega, ?_, ?_, ?_, ?_⟩
  · intro i hi
    by_cases e : i = k
    · subst e
      simp only [if_true]
      rw [hx]
      exact ⟨inn 0 (by simp), inn 1 (by simp), inn 2 (by simp), inn 3 (by simp)⟩
    · have := h1 i (by omega)
      simp only [e, if_false]
      rw [out _ (by omega), out _ (by omega), out _ (by omega), out _ (by omega)]
      exact this
  · intro j hj
    by_cases e : j < k * 4 ∨ k * 4 + 4 ≤ j
    · rw [out j e]; exact h2 j hj
    · obtain ⟨t, rfl⟩ : ∃ t, j = k * 4 + t := ⟨j - k * 4, by omega⟩
      exact ⟨_, inn t (by simp; omega)⟩
  · intro j
    rw [World.frozen?_setCells, hb2.frozen (by exact hB)]
    exact h3 j
  · exact below_setCells _ (Nat.le_refl _) _ _ _ (h4.trans (hb2.mono (by omega)))

set_option maxHeartbeats 1000000 in
theorem build_any (b n c : Nat) (zs : List Int) (w : World) (hc : Nums w b 0 zs) (hl : zs.length = n) (hn : n ≤ 65536) (h1 : 1 ≤ n) :
    Calls Try.prog 12 #[.slice (some ⟨b, 0, none⟩) n n] w fun e w' => ∃ f, e = .returned (.slice (some ⟨w.heap.size, 0, none⟩) n n) ∧ Tab w' w.heap.size zs f n ∧ Below w.heap.size w w' := by
  obtain ⟨i0, hi, hz0, hz1, hz2⟩ := info_parts Try.info35
  have hb : b < w.heap.size := World.block_lt_of_cell? w _ (hc 0 (by omega))
  have HC : Hid (Nums w b 0 zs ∧ zs.length = n) := ⟨hc, hl⟩
  clear hc hl
  go_enter Try.func12, Try.ntmps12
  go_wp2_with (first | (at_make; refine wpList_make_full _ rfl _ _ 29 rfl w.heap.size 35 i0 (.agg #[.int .i64 0, .int .i64 0, .int .i8 0, .string ⟨#[]⟩]) 4 Try.underlying29 hi hz0 hz1 _ _ _ _ n rfl rfl rfl rfl (by rw [hz2]; omega) (by unfold maxLen; omega) (Nat.le_refl _) ?_; intro w1 hown hgrow))
  have hbel : Below w.heap.size w w1 := (Below.refl _ _).grown hgrow (Nat.le_refl _) (fun k h => by cases h)
  clear hgrow
  have hst : (∀ j, j < n * 4 → ∃ v, w1.cell? ⟨w.heap.size, j, none⟩ = some v) ∧ (∀ j, w1.frozen? ⟨w.heap.size, j, none⟩ = false) := by
    refine ⟨fun j hj => ?_, fun j => hown.frozenAt j⟩
    rw [hown.cellAt j hj]
    exact ⟨_, List.getElem?_eq_getElem (by rw [hown.1]; exact hj)⟩
  have HST : Hid ((∀ j, j < n * 4 → ∃ v, w1.cell? ⟨w.heap.size, j, none⟩ = some v) ∧ (∀ j, w1.frozen? ⟨w.heap.size, j, none⟩ = false) ∧ Below w.heap.size w w1) := ⟨hst.1, hst.2, hbel⟩
  have hB1 : w.heap.size < w1.heap.size := by obtain ⟨v, hv⟩ := hst.1 0 (by omega); exact World.block_lt_of_cell? w1 _ hv
  clear hst hown hbel
  go_loopw [4] (fun i wr => ∃ (k : Nat) (f : Nat → ByteArray), k ≤ n ∧ i = .int .i64 k ∧ w.heap.size < wr.heap.size ∧ Hid (Tab wr w.heap.size zs f k ∧ (∀ j, j < n * 4 → ∃ v, wr.cell? ⟨w.heap.size, j, none⟩ = some v) ∧ (∀ j, wr.frozen? ⟨w.heap.size, j, none⟩ = false) ∧ Below w.heap.size w wr)) (fun i _ => n - (intOf i).toNat)
  case atStart => exact ⟨0, fun _ => ByteArray.empty, Nat.zero_le _, rfl, hB1, fun i h => by omega, HST.out⟩
  case round =>
    clear HST hB1
    obtain ⟨k, f, hk, rfl, hB, HR⟩ := hrel
    by_cases hlt : k < n
    · have hlt2 : (k : Int) < (n : Int) := by omega
      have hcx : wr.cell? ⟨b, k, none⟩ = some (.int .i64 (zs.getD k 0)) := by
        have h := HC.out.1 k (by rw [HC.out.2]; exact hlt)
        rw [Nat.zero_add] at h
        exact (HR.out.2.2.2.cell (by exact hb)).trans h
      generalize hx : zs.getD k 0 = x at hcx
      have HX : Hid (zs.getD k 0 = x) := hx
      clear hx
      obtain ⟨v0, hv0⟩ := HR.out.2.1 (k * 4) (by omega)
      obtain ⟨v1, hv1⟩ := HR.out.2.1 (k * 4 + 1) (by omega)
      obtain ⟨v2, hv2⟩ := HR.out.2.1 (k * 4 + 2) (by omega)
      obtain ⟨v3, hv3⟩ := HR.out.2.1 (k * 4 + 3) (by omega)
      have f0 := HR.out.2.2.1 (k * 4)
      have f1 := HR.out.2.2.1 (k * 4 + 1)
      have f2 := HR.out.2.2.1 (k * 4 + 2)
      have f3 := HR.out.2.2.1 (k * 4 + 3)
      have hbw : b < wr.heap.size := by omega
      go_wp2_with fail
      go_region_with (go_at_call 18; refine (itoa_any k _ (by omega)).mono ?_; rintro e w2 ⟨s, rfl, hs, hb2⟩; have hcx2 := (hb2.cell (p := ⟨b, k, none⟩) hbw).trans hcx; have hw0 := (hb2.cell (p := ⟨w.heap.size, k * 4, none⟩) hB).trans hv0; have hw1 := (hb2.cell (p := ⟨w.heap.size, k * 4 + 1, none⟩) hB).trans hv1; have hw2 := (hb2.cell (p := ⟨w.heap.size, k * 4 + 2, none⟩) hB).trans hv2; have hw3 := (hb2.cell (p := ⟨w.heap.size, k * 4 + 3, none⟩) hB).trans hv3; have g0 := (hb2.frozen (p := ⟨w.heap.size, k * 4, none⟩) hB).trans f0; have g1 := (hb2.frozen (p := ⟨w.heap.size, k * 4 + 1, none⟩) hB).trans f1; have g2 := (hb2.frozen (p := ⟨w.heap.size, k * 4 + 2, none⟩) hB).trans f2; have g3 := (hb2.frozen (p := ⟨w.heap.size, k * 4 + 3, none⟩) hB).trans f3)
      all_goals
        go_wp2
        go_roundw
        case rel =>
          exact ⟨k + 1, _, by omega, by go_num, build_step n k zs f w wr w2 x _ hlt HX.out hB HR.out (by first | exact below_undrew hb2 | exact hb2)⟩
        case measure => simp [intOf]; omega
    · obtain rfl : k = n := by omega
      go_wp2
      go_ret
      exact ⟨f, rfl, HR.out.1, HR.out.2.2.2⟩
end Go.Proofs.Qxb6002460a
