/-
  SHARED WALKS OF THE SEAT (the holding tables): zzTermsG1AscendingStrict, zzTermsG1CopyInts, zzTermsG1IndexOf, zzTermsG1Itoa.
-/
import Derived.Test.Qxb6002460aRows
import Derived.WalkKit
import Derived.ProofKit
import Derived.ShutString
import Derived.ChangeOld
import Derived.Below
import Derived.WalkSpells
import Derived.WalkLawsBesides
import Derived.Outline
import Derived.Deep.QuietTactic
import Derived.BigQuiet
import Derived.Deep.RegionWith
import Derived.Laws.BytesArg
namespace Go.Proofs.Qxb6002460a
open Go.RowKit
set_option linter.unusedVariables false
set_option maxRecDepth 100000

theorem Try.info3 : (Try.prog.info? 3).map (fun i => (i.zero, i.size, i.bytes)) = some (some (.int .i64 0), 1, 8) := by kernel_rfl

/-- The numbers 'zs' lie at the slice's address. -/
def Nums (w : World) (b off : Nat) (zs : List Int) : Prop := ∀ i, i < zs.length → w.cell? ⟨b, off + i, none⟩ = some (.int .i64 (zs.getD i 0))

theorem Nums.below {w w' : World} {b off : Nat} {zs : List Int} (h : Nums w b off zs) (hb : Below w.heap.size w w') : Nums w' b off zs := fun i hi => by
  have := h i hi
  rw [hb.cell (World.block_lt_of_cell? w _ this)]
  exact this

/-- Strictly ascending as far as place k. -/
def ascTo (zs : List Int) (k : Nat) : Prop := ∀ i, 1 ≤ i → i < k → zs.getD (i - 1) 0 < zs.getD i 0

set_option maxHeartbeats 1000000 in
theorem asc_any (b off n c : Nat) (zs : List Int) (w : World) (hc : Nums w b off zs) (hl : zs.length = n) (hn : n ≤ 65536) (h1 : 1 ≤ n) :
    Calls Try.prog 10 #[.slice (some ⟨b, off, none⟩) n c] w fun e w' => ∃ r q, e = .returned (.bool r) ∧ w' = w.drewN q ∧ (r = true → ascTo zs n) := by
  have HC : Hid (Nums w b off zs ∧ zs.length = n) := ⟨hc, hl⟩
  clear hc hl
  go_enter Try.func10, Try.ntmps10
  go_wp2
  go_loopw [3] (fun i wr => ∃ k q : Nat, 1 ≤ k ∧ k ≤ n ∧ i = .int .i64 k ∧ wr = w.drewN q ∧ Hid (ascTo zs k)) (fun i _ => n - (intOf i).toNat)
  case atStart => exact ⟨1, 0, Nat.le_refl _, h1, rfl, rfl, fun i h1 h2 => by omega⟩
  case round =>
    obtain ⟨k, q, hk1, hk, rfl, rfl, HA⟩ := hrel
    by_cases hlt : k < n
    · obtain ⟨k, rfl⟩ : ∃ j, k = j + 1 := ⟨k - 1, by omega⟩
      obtain ⟨x, HX, hx⟩ : ∃ x, Hid (zs.getD k 0 = x) ∧ w.cell? ⟨b, off + k, none⟩ = some (.int .i64 x) := ⟨_, rfl, HC.out.1 k (by rw [HC.out.2]; omega)⟩
      obtain ⟨y, HY, hy⟩ : ∃ y, Hid (zs.getD (k + 1) 0 = y) ∧ w.cell? ⟨b, off + (k + 1), none⟩ = some (.int .i64 y) := ⟨_, rfl, HC.out.1 (k + 1) (by rw [HC.out.2]; omega)⟩
      have hlt2 : (k : Int) + 1 < (n : Int) := by omega
      have hlt3 : (k : Int) < (n : Int) := by omega
      by_cases hxy : y ≤ x
      · go_wp2
        go_quiet (fail)
        go_wp2
        go_ret
        exact ⟨false, _, rfl, World.drewN_drewN _ _ _, fun h => by cases h⟩
      · have HA1 : Hid (ascTo zs (k + 1 + 1)) := by
          intro i h1 h2
          by_cases e : i = k + 1
          · subst e; rw [HY.out, show k + 1 - 1 = k from rfl, HX.out]; omega
          · exact HA.out i h1 (by omega)
        go_wp2
        go_quiet (fail)
        go_wp2
        go_roundw
        case rel => exact ⟨k + 1 + 1, _, by omega, by omega, by go_num, rfl, HA1.out⟩
        case measure => simp [intOf]; omega
    · go_wp2
      go_ret
      exact ⟨true, q, rfl, rfl, fun _ => by obtain rfl : k = n := by omega
                                            exact HA.out⟩

/-- The row that a copy holds after k rounds. -/
def copyRow (zs : List Int) (n k : Nat) : List Value := (List.range n).map fun j => if j < k then .int .i64 (zs.getD j 0) else .int .i64 0
theorem copyRow_get (zs : List Int) (n k j : Nat) (h : j < n) : (copyRow zs n k)[j]? = some (if j < k then .int .i64 (zs.getD j 0) else .int .i64 0) := by
  simp [copyRow, h]
theorem copyRow_set (zs : List Int) (n k : Nat) : (copyRow zs n k).set k (.int .i64 (zs.getD k 0)) = copyRow zs n (k + 1) := by
  apply List.ext_getElem
  · simp [copyRow]
  · intro j h1 h2
    simp only [copyRow, List.getElem_set, List.getElem_map, List.getElem_range]
    by_cases e : k = j
    · subst e; simp
    · rw [if_neg e]
      by_cases h : j < k
      · simp [h, show j < k + 1 from by omega]
      · simp [h, show ¬ j < k + 1 from by omega]
theorem madeCells_row (zs : List Int) (n : Nat) : (madeCells (Value.int .i64 0).cells (n * 1)).toList = copyRow zs n 0 := by
  simp [madeCells, copyRow, Value.cells]
  intro a _
  simp [Nat.mod_one]

set_option maxHeartbeats 1000000 in
/-- 'zzTermsG1CopyInts' of a slice that is not nil. -/
theorem copy_any (b off n c : Nat) (zs : List Int) (w : World) (hl : zs.length = n) (hn : n ≤ 65536) (hc : Nums w b off zs) (h1 : 1 ≤ n) :
    Calls Try.prog 11 #[.slice (some ⟨b, off, none⟩) n c] w fun e w' =>
      e = .returned (.slice (some ⟨w.heap.size, 0, none⟩) n n) ∧ Nums w' w.heap.size 0 zs ∧ Below w.heap.size w w' := by
  obtain ⟨i0, hi, hz0, hz1, hz2⟩ := info_parts Try.info3
  have hnil := fun wx a n c => Lib.run_eql_slice_nil (P := Try.prog) wx 24 3 a n c 0 0 Try.underlying24
  have hb : b < w.heap.size := World.block_lt_of_cell? w _ (hc 0 (by omega))
  have HC : Hid (Nums w b off zs ∧ zs.length = n) := ⟨hc, hl⟩
  clear hc hl
  go_enter Try.func11, Try.ntmps11
  go_wp2_with (first | (at_make; refine wpList_make_full _ rfl _ _ 24 rfl w.heap.size 3 i0 (.int .i64 0) 1 Try.underlying24 hi hz0 hz1 _ _ _ _ n rfl rfl rfl rfl (by rw [hz2]; omega) (by unfold maxLen; omega) (Nat.le_refl _) ?_; intro w1 hown hgrow))
  rw [madeCells_row zs] at hown
  have hbel : Below w.heap.size w w1 := (Below.refl _ _).grown hgrow (Nat.le_refl _) (fun k h => by cases h)
  clear hgrow
  go_loopw [4] (fun i wr => ∃ k : Nat, k ≤ n ∧ i = .int .i64 k ∧ wr.ownsRow w.heap.size 3 1 (.slice (some ⟨w.heap.size, 0, none⟩) n n) n (copyRow zs n k) ∧ Below w.heap.size w wr) (fun i _ => n - (intOf i).toNat)
  case atStart => exact ⟨0, Nat.zero_le _, rfl, hown, hbel⟩
  case round =>
    obtain ⟨k, hk, rfl, ho, hbe⟩ := hrel
    clear hown hbel
    by_cases hlt : k < n
    · have hc1 : wr.cell? ⟨b, off + k, none⟩ = some (.int .i64 (zs.getD k 0)) := (hbe.cell (by exact hb)).trans (HC.out.1 k (by rw [HC.out.2]; exact hlt))
      have hc2 : wr.cell? ⟨w.heap.size, k, none⟩ = some (.int .i64 0) := by
        rw [ho.cellAt k (by omega), copyRow_get zs n k k hlt]; simp
      have hf2 := ho.frozenAt k
      have hst := ho.stored k (.int .i64 (zs.getD k 0))
      rw [copyRow_set] at hst
      have HST : Hid ((wr.setCell ⟨w.heap.size, k, none⟩ (.int .i64 (zs.getD k 0))).ownsRow w.heap.size 3 1 (.slice (some ⟨w.heap.size, 0, none⟩) n n) n (copyRow zs n (k + 1)) ∧ Below w.heap.size w (wr.setCell ⟨w.heap.size, k, none⟩ (.int .i64 (zs.getD k 0)))) := ⟨hst.1, hbe.setCell (Nat.le_refl _) _⟩
      clear hst ho hbe
      go_wp2
      go_roundw
      case rel => exact ⟨k + 1, by omega, by go_num, HST.out.1, HST.out.2⟩
      case measure => simp [intOf]; omega
    · have : k = n := by omega
      subst this
      go_wp2
      go_ret
      refine ⟨rfl, fun i hi => ?_, hbe⟩
      have := HC.out.2
      rw [Nat.zero_add, ho.cellAt i (by omega), copyRow_get zs k k i (by omega), if_pos (by omega)]

set_option maxHeartbeats 1000000 in
/-- 'zzTermsG1IndexOf' where the number stands at place k, and at no place ahead of it. -/
theorem index_any (b off n c k : Nat) (zs : List Int) (v : Int) (w : World) (hc : Nums w b off zs) (hl : zs.length = n) (hn : n ≤ 65536) (hk : k < n) (hv : zs.getD k 0 = v) (hne : ∀ i, i < k → zs.getD i 0 ≠ v) :
    Calls Try.prog 14 #[.slice (some ⟨b, off, none⟩) n c, .int .i64 v] w fun e w' => e = .returned (.int .i64 k) ∧ w' = w := by
  have HC : Hid (Nums w b off zs ∧ zs.length = n ∧ zs.getD k 0 = v ∧ ∀ i, i < k → zs.getD i 0 ≠ v) := ⟨hc, hl, hv, hne⟩
  clear hc hl hv hne
  go_enter Try.func14, Try.ntmps14
  go_wp2
  go_loop [5] (fun i => ∃ j : Nat, j ≤ k ∧ i = .int .i64 j) (fun i => n - (intOf i).toNat)
  case atStart => exact ⟨0, Nat.zero_le _, rfl⟩
  case round =>
    obtain ⟨j, hj, rfl⟩ := hrel
    have hjn : j < n := by omega
    obtain ⟨x, HX, hx⟩ : ∃ x, Hid (zs.getD j 0 = x) ∧ w.cell? ⟨b, off + j, none⟩ = some (.int .i64 x) := ⟨_, rfl, HC.out.1 j (by rw [HC.out.2.1]; omega)⟩
    by_cases hjk : j = k
    · obtain rfl : x = v := by rw [← HX.out, hjk]; exact HC.out.2.2.1
      have HJ : Hid (j = k) := hjk
      clear hjk
      go_wp2
      go_ret
      exact ⟨by rw [HJ.out]; rfl, rfl⟩
    · have hxv : (x == v) = false := by
        have := HC.out.2.2.2 j (by omega)
        rw [HX.out] at this
        simpa using this
      go_wp2
      go_round
      case rel => exact ⟨j + 1, by omega, by go_num⟩
      case measure => simp [intOf]; omega

theorem small_step (m : Int) (d : Nat) (h : m < (10 : Int) ^ (d + 1)) (h0 : 0 ≤ m) : m / 10 < (10 : Int) ^ d := by
  rw [Int.pow_succ] at h
  omega

theorem Try.arrayLen45 : Try.prog.arrayLen 45 = 24 := by kernel_rfl
theorem Try.elem45 : Try.prog.elem 45 = 5 := by kernel_rfl
theorem Try.under45 : Try.prog.underlying 45 = some (.array (Try.prog.arrayLen 45) (Try.prog.elem 45)) := by kernel_rfl
theorem Try.size5 (w : World) : (sizeOf 5).run Try.prog w = .ok 1 w := by kernel_rfl
/-- 'buf[j:]' of the array of 24 bytes. -/
theorem slice45 (B j : Nat) (hj : j < 24) (wx : World) : (Instr.sliceAt 45 (.pointer (some ⟨B, 0, none⟩)) (some (.int .i64 (j : Int))) none none).run Try.prog wx = .ok (.slice (some ⟨B, j, none⟩) (24 - j) (24 - j)) wx := by
  rw [run_sliceAt_array_l wx 45 ⟨B, 0, none⟩ Try.under45 .i64 j (by omega) (by rw [Try.arrayLen45]; omega), Try.elem45, Try.size5, Try.arrayLen45]
  simp [Result.andThen, slicedAt, WideShapes.add_plain]
  omega

set_option maxHeartbeats 1000000 in
/-- 'zzTermsG1Itoa': it returns some string of at most 24 bytes. (Which one, no law here asks.) -/
theorem itoa_any (n : Nat) (w : World) (hn : n ≤ 65536) :
    Calls Try.prog 18 #[.int .i64 n] w fun e w' => ∃ s : ByteArray, e = .returned (.string s) ∧ s.size ≤ 24 ∧ Below w.heap.size w w' := by
  by_cases h0 : n = 0
  · subst h0
    go_enter Try.func18, Try.ntmps18
    go_wp2
    go_ret
    exact ⟨_, rfl, by decide, Below.refl _ _⟩
  · have h0' : ¬ (n : Int) ≤ 0 := by omega
    go_enter Try.func18, Try.ntmps18
    go_wp2
    go_loopw [0, 4] (fun x i wr => ∃ (m j : Nat) (xs : List Int), x = .int .i64 m ∧ i = .int .i64 j ∧ 19 ≤ j ∧ j ≤ 24 ∧ m ≤ 65536 ∧ Hid (xs.length = 24 ∧ (m : Int) < (10 : Int) ^ (j - 19) ∧ wr.ownsRow w.heap.size 45 1 (.slice (some ⟨w.heap.size, 0, none⟩) 24 24) 24 (xs.map (Value.int .u8)) ∧ Below w.heap.size w wr ∧ (j < 24 ∨ m = n))) (fun x _ _ => (intOf x).toNat)
    case atStart =>
      refine ⟨n, 24, List.replicate 24 0, rfl, rfl, by omega, by omega, hn, rfl, ?_, ?_, (Below.refl _ _).alloc (Nat.le_refl _) _, .inr rfl⟩
      · show (n : Int) < 10 ^ 5
        omega
      · exact World.ownsRow_lit w _ 24 (Nat.le_refl _) (by unfold maxLen; omega) rfl
    case round =>
      obtain ⟨m, j, xs, rfl, rfl, hj1, hj2, hm, HR⟩ := hrel
      by_cases hpos : 0 < m
      · obtain ⟨j, rfl⟩ : ∃ i, j = i + 1 := ⟨j - 1, by omega⟩
        have hj3 : 19 ≤ j := by
          rcases Nat.lt_or_ge j 19 with h | h
          · have h2 := HR.out.2.1
            rw [show j + 1 - 19 = 0 from by omega] at h2
            simp at h2; omega
          · exact h
        have hcell : ∃ y, wr.cell? ⟨w.heap.size, j, none⟩ = some (.int .u8 y) := by
          have h := HR.out.2.2.1.cellAt j (by omega)
          have hl := HR.out.1
          rw [List.getElem?_map, List.getElem?_eq_getElem (by omega)] at h
          exact ⟨_, h⟩
        obtain ⟨y, hy⟩ := hcell
        have hf := HR.out.2.2.1.frozenAt j
        have HST : Hid (∀ X, (xs.set j X).length = 24 ∧ (m / 10 : Nat) < (10 : Int) ^ (j - 19) ∧ (wr.setCell ⟨w.heap.size, j, none⟩ (.int .u8 X)).ownsRow w.heap.size 45 1 (.slice (some ⟨w.heap.size, 0, none⟩) 24 24) 24 ((xs.set j X).map (Value.int .u8)) ∧ Below w.heap.size w (wr.setCell ⟨w.heap.size, j, none⟩ (.int .u8 X)) ∧ (j < 24 ∨ m / 10 = n)) := by
          intro X
          refine ⟨by rw [List.length_set]; exact HR.out.1, ?_, ?_, HR.out.2.2.2.1.setCell (Nat.le_refl _) _, .inl (by omega)⟩
          · have h := HR.out.2.1
            rw [show j + 1 - 19 = (j - 19) + 1 from by omega] at h
            have := small_step m (j - 19) h (by omega)
            simpa using this
          · rw [List.map_set]
            exact (HR.out.2.2.1.stored j (.int .u8 X)).1
        clear HR
        go_wp2
        go_roundw
        case rel => exact ⟨m / 10, j, _, by go_num, by go_num, hj3, by omega, by omega, HST.out _⟩
        case measure => simp [intOf]; omega
      · obtain rfl : m = 0 := by omega
        have hconv := run_convert_bytes_arg (P := Try.prog) wr 46 5 Try.underlying46 Try.underlying5 w.heap.size j (24 - j) (24 - j) (xs.drop j) (by rw [List.length_drop, HR.out.1]) (by
          intro i hi
          have hl := HR.out.1
          rw [HR.out.2.2.1.cellAt (j + i) (by omega)]
          simp [List.getD_eq_getElem?_getD, show j + i < xs.length from by omega]) 9 Try.underlying9
        have hj24 : j < 24 := by rcases HR.out.2.2.2.2 with h | h <;> omega
        have hsl := slice45 w.heap.size j hj24
        have HB : Hid (Below w.heap.size w wr) := HR.out.2.2.2.1
        have HZ : Hid ((strOfNums (xs.drop j)).size ≤ 24) := by
          show ByteArray.size _ ≤ 24
          have hl := HR.out.1
          simp [strOfNums, ByteArray.size]
          omega
        go_wp2
        go_ret
        exact ⟨_, rfl, HZ.out, HB.out⟩
end Go.Proofs.Qxb6002460a
