/-
  SHARED WALKS OF THE SEAT: errors.New, checkInteger, zzCloneBytes.
-/
import Derived.Test.Qxb6002407aRows
import Derived.WalkKit
import Derived.ProofKit
import Derived.ShutString
import Derived.ChangeOld
import Derived.Below
import Derived.WalkSpells
import Derived.WalkLawsBesides
import Derived.Outline
namespace Go.Proofs.Qxb6002407a
open Go.RowKit
set_option linter.unusedVariables false

theorem Try.info5 : (Try.prog.info? 5).map (fun i => (i.zero, i.size, i.bytes)) = some (some (.int .u8 0), 1, 1) := by kernel_rfl

/-- The row that a clone holds after k rounds. -/
def cloneRow (zs : List Int) (n k : Nat) : List Value := (List.range n).map fun j => if j < k then .int .u8 (zs.getD j 0) else .int .u8 0

theorem cloneRow_length (zs : List Int) (n k : Nat) : (cloneRow zs n k).length = n := by simp [cloneRow]
theorem cloneRow_get (zs : List Int) (n k j : Nat) (h : j < n) : (cloneRow zs n k)[j]? = some (if j < k then .int .u8 (zs.getD j 0) else .int .u8 0) := by
  simp [cloneRow, h]
theorem cloneRow_set (zs : List Int) (n k : Nat) : (cloneRow zs n k).set k (.int .u8 (zs.getD k 0)) = cloneRow zs n (k + 1) := by
  apply List.ext_getElem
  · simp [cloneRow]
  · intro j h1 h2
    simp only [cloneRow, List.getElem_set, List.getElem_map, List.getElem_range]
    by_cases e : k = j
    · subst e; simp
    · rw [if_neg e]
      by_cases h : j < k
      · simp [h, show j < k + 1 from by omega]
      · simp [h, show ¬ j < k + 1 from by omega]
theorem madeCells_row (zs : List Int) (n : Nat) : (madeCells (Value.int .u8 0).cells (n * 1)).toList = cloneRow zs n 0 := by
  simp [madeCells, cloneRow, Value.cells]
  intro a _
  simp [Nat.mod_one]

/-- The bytes 'zs' lie at the slice's address. -/
def Seq (w : World) (ao : Option Addr) (zs : List Int) : Prop :=
  zs = [] ∨ ∃ b off, ao = some ⟨b, off, none⟩ ∧ ∀ i, i < zs.length → w.cell? ⟨b, off + i, none⟩ = some (.int .u8 (zs.getD i 0))

theorem Seq.below {w w' : World} {ao : Option Addr} {zs : List Int} (h : Seq w ao zs) (hb : Below w.heap.size w w') : Seq w' ao zs := by
  rcases h with h | ⟨b, off, ha, hc⟩
  · exact .inl h
  · refine .inr ⟨b, off, ha, fun i hi => ?_⟩
    have := hc i hi
    rw [hb.cell (World.block_lt_of_cell? w _ this)]
    exact this

/-- WHAT THE WALK IS TOLD OF A SLICE OF BYTES THAT CAME IN (the shell's own word), as 'Seq'. -/
theorem Seq.ofRow {w : World} {x : Addr} {len cap : Nat} {zs : List Int} (hl : len ≤ cap) (hz : zs.length = cap) (hcell : ∀ i, i < zs.length → w.cell? (x.add i) = some (.int .u8 (zs.getD i 0))) :
    Seq w (some x) (zs.take len) ∧ (zs.take len).length = len := by
  have hlen : (zs.take len).length = len := by rw [List.length_take]; omega
  refine ⟨?_, hlen⟩
  by_cases h0 : len = 0
  · left; subst h0; simp
  · right
    obtain ⟨b, off, spot⟩ := x
    have hspot : spot = none := by simpa [Addr.add] using World.cell?_spot (hcell 0 (by omega))
    subst hspot
    refine ⟨b, off, rfl, fun i hi => ?_⟩
    rw [hlen] at hi
    have := hcell i (by omega)
    rw [WideShapes.add_plain] at this
    rw [this]
    simp [List.getD_eq_getElem?_getD, hi]

/-- 'zzCloneBytes' of a slice that is not nil and holds something. -/
theorem clone_some (b off n c : Nat) (zs : List Int) (w : World) (hn : n ≤ 1048576)
    (hcell : ∀ i, i < n → w.cell? ⟨b, off + i, none⟩ = some (.int .u8 (zs.getD i 0))) (hb : b < w.heap.size) :
    Calls Try.prog 6 #[.slice (some ⟨b, off, none⟩) n c] w fun e w' =>
      e = .returned (.slice (some ⟨w.heap.size, 0, none⟩) n n) ∧
      w'.ownsRow w.heap.size 5 1 (.slice (some ⟨w.heap.size, 0, none⟩) n n) n (cloneRow zs n n) ∧ Below w.heap.size w w' := by
  obtain ⟨i0, hi, hz0, hz1, hz2⟩ := info_parts Try.info5
  have hnil := fun wx a n c => Lib.run_eql_slice_nil (P := Try.prog) wx 22 5 a n c 0 0 Try.underlying22
  go_enter Try.func6, Try.ntmps6
  go_wp2_with (first | (at_make; refine wpList_make_full _ rfl _ _ 22 rfl w.heap.size 5 i0 (.int .u8 0) 1 Try.underlying22 hi hz0 hz1 _ _ _ _ n rfl rfl rfl rfl (by rw [hz2]; omega) (by unfold maxLen; omega) (Nat.le_refl _) ?_; intro w1 hown hgrow))
  rw [madeCells_row zs] at hown
  have hbel : Below w.heap.size w w1 := (Below.refl _ _).grown hgrow (Nat.le_refl _) (fun k h => by cases h)
  clear hgrow
  go_loopw [4] (fun i wr => ∃ k : Nat, k ≤ n ∧ i = .int .i64 k ∧ wr.ownsRow w.heap.size 5 1 (.slice (some ⟨w.heap.size, 0, none⟩) n n) n (cloneRow zs n k) ∧ Below w.heap.size w wr) (fun i _ => n - (intOf i).toNat)
  case atStart => exact ⟨0, Nat.zero_le _, rfl, hown, hbel⟩
  case round =>
    obtain ⟨k, hk, rfl, ho, hbe⟩ := hrel
    clear hown hbel
    by_cases hlt : k < n
    · have hc1 : wr.cell? ⟨b, off + k, none⟩ = some (.int .u8 (zs.getD k 0)) := (hbe.cell (by exact hb)).trans (hcell k hlt)
      have hc2 : wr.cell? ⟨w.heap.size, k, none⟩ = some (.int .u8 0) := by
        rw [ho.cellAt k (by omega), cloneRow_get zs n k k hlt]; simp
      have hf2 := ho.frozenAt k
      have hst := ho.stored k (.int .u8 (zs.getD k 0))
      rw [cloneRow_set] at hst
      have HST : Hid ((wr.setCell ⟨w.heap.size, k, none⟩ (.int .u8 (zs.getD k 0))).ownsRow w.heap.size 5 1 (.slice (some ⟨w.heap.size, 0, none⟩) n n) n (cloneRow zs n (k + 1)) ∧ Below w.heap.size w (wr.setCell ⟨w.heap.size, k, none⟩ (.int .u8 (zs.getD k 0)))) := ⟨hst.1, hbe.setCell (Nat.le_refl _) _⟩
      clear hst ho hbe
      go_wp2
      go_roundw
      case rel => exact ⟨k + 1, by omega, by go_num, HST.out.1, HST.out.2⟩
      case measure => simp [intOf]; omega
    · have : k = n := by omega
      subst this
      go_wp2
      go_ret
      exact ⟨rfl, ho, hbe⟩

theorem clone_empty (x : Addr) (c : Nat) (w : World) :
    Calls Try.prog 6 #[.slice (some x) 0 c] w fun e w' =>
      e = .returned (.slice (some ⟨w.heap.size, 0, none⟩) 0 0) ∧ Below w.heap.size w w' := by
  obtain ⟨i0, hi, hz0, hz1, hz2⟩ := info_parts Try.info5
  have hnil := fun wx a n c => Lib.run_eql_slice_nil (P := Try.prog) wx 22 5 a n c 0 0 Try.underlying22
  go_enter Try.func6, Try.ntmps6
  go_wp2_with (first | (at_make; refine wpList_make_full _ rfl _ _ 22 rfl w.heap.size 5 i0 (.int .u8 0) 1 Try.underlying22 hi hz0 hz1 _ _ _ _ 0 rfl rfl rfl rfl (by rw [hz2]; omega) (by unfold maxLen; omega) (Nat.le_refl _) ?_; intro w1 hown hgrow))
  have hbel : Below w.heap.size w w1 := (Below.refl _ _).grown hgrow (Nat.le_refl _) (fun k h => by cases h)
  clear hgrow hown
  go_loop [4] (fun i => i = .int .i64 0) (fun i => 0)
  case atStart => exact rfl
  case round =>
    subst hrel
    go_wp2
    go_ret
    exact ⟨rfl, hbel⟩

theorem clone_nil (w : World) :
    Calls Try.prog 6 #[.slice none 0 0] w fun e w' => e = .returned (.slice none 0 0) ∧ w' = w := by
  have hnil := fun wx a n c => Lib.run_eql_slice_nil (P := Try.prog) wx 22 5 a n c 0 0 Try.underlying22
  go_enter Try.func6, Try.ntmps6
  go_wp2
  go_ret
  exact ⟨rfl, rfl⟩

theorem clone_any (ao : Option Addr) (n c : Nat) (zs : List Int) (w : World) (hs : Seq w ao zs) (hl : zs.length = n) (hn : n ≤ 1048576) (h0 : ao = none → c = 0 ∧ n = 0) :
    Calls Try.prog 6 #[.slice ao n c] w fun e w' => ∃ ao', e = .returned (.slice ao' n n) ∧ Seq w' ao' zs ∧ Below w.heap.size w w' := by
  rcases ao with _ | x
  · obtain ⟨rfl, rfl⟩ := h0 rfl
    refine (clone_nil w).mono ?_
    rintro e w' ⟨rfl, rfl⟩
    exact ⟨none, rfl, .inl (List.length_eq_zero_iff.1 hl), Below.refl _ _⟩
  · by_cases hz : n = 0
    · subst hz
      refine (clone_empty x c w).mono ?_
      rintro e w' ⟨rfl, hb⟩
      exact ⟨_, rfl, .inl (List.length_eq_zero_iff.1 hl), hb⟩
    · rcases hs with rfl | ⟨b, off, ha, hc⟩
      · exact absurd hl (by simp; omega)
      · cases ha
        rw [hl] at hc
        have hb : b < w.heap.size := World.block_lt_of_cell? w _ (hc 0 (by omega))
        refine (clone_some b off n c zs w hn hc hb).mono ?_
        rintro e w' ⟨rfl, ho, hbel⟩
        refine ⟨_, rfl, .inr ⟨w.heap.size, 0, rfl, fun i hi => ?_⟩, hbel⟩
        rw [Nat.zero_add, ho.cellAt i (by omega), cloneRow_get zs n n i (by omega), if_pos (by omega)]

/-- What 'checkInteger' accepts. -/
def okInt : List Int → Bool
  | [] => false
  | [_] => true
  | a :: b :: _ => !((a == 0 && decide (b < 128)) || (a == 255 && decide (128 ≤ b)))

theorem check_yes (ao : Option Addr) (n c : Nat) (zs : List Int) (w : World) (hs : Seq w ao zs) (hl : zs.length = n) (hok : okInt zs = true) :
    Calls Try.prog 13 #[.slice ao n c] w fun e w' => e = .returned .nilIface ∧ w' = w := by
  rcases hs with rfl | ⟨b, off, rfl, hc⟩
  · simp [okInt] at hok
  match zs, hok, hl, hc with
  | [c0], _, hl, hc =>
    simp at hl; subst hl
    go_enter Try.func13, Try.ntmps13
    go_wp2
    go_ret
    exact ⟨rfl, rfl⟩
  | c0 :: c1 :: r, hok, hl, hc =>
    have h0 : w.cell? ⟨b, off, none⟩ = some (.int .u8 c0) := by simpa using hc 0 (by simp)
    have h1 : w.cell? ⟨b, off + 1, none⟩ = some (.int .u8 c1) := by simpa using hc 1 (by simp)
    have hn : (1 : Int) < (n : Int) := by simp at hl; omega
    have hn0 : ((n : Int) == 0) = false := by simp; omega
    simp only [okInt, Bool.not_eq_true', Bool.or_eq_false_iff, Bool.and_eq_false_iff, decide_eq_false_iff_not] at hok
    obtain ⟨hA, hB⟩ := hok
    clear hc hl
    by_cases e0 : c0 = 0
    · subst e0
      have g1 : ¬ c1 < 128 := by simpa using hA
      clear hA hB
      go_enter Try.func13, Try.ntmps13
      go_wp2
      go_ret
      exact ⟨rfl, rfl⟩
    · have g0 : (c0 == 0) = false := by simpa using e0
      clear hA e0
      by_cases e1 : c0 = 255
      · subst e1
        have g1 : c1 < 128 := by simpa using hB
        clear hB
        go_enter Try.func13, Try.ntmps13
        go_wp2
        go_ret
        exact ⟨rfl, rfl⟩
      · have g2 : (c0 == 255) = false := by simpa using e1
        clear hB e1
        go_enter Try.func13, Try.ntmps13
        go_wp2
        go_ret
        exact ⟨rfl, rfl⟩

theorem check_no (ao : Option Addr) (n c : Nat) (zs : List Int) (w : World) (hs : Seq w ao zs) (hl : zs.length = n) (hok : okInt zs = false) :
    Calls Try.prog 13 #[.slice ao n c] w fun e w' => (∃ p, e = .returned (.iface 40 (.pointer (some p)))) ∧ Below w.heap.size w w' := by
  rcases hs with rfl | ⟨b, off, rfl, hc⟩
  · simp at hl; subst hl
    go_enter Try.func13, Try.ntmps13
    go_wp2
    go_ret
    exact ⟨⟨_, rfl⟩, (Below.refl _ _).alloc (Nat.le_refl _) _⟩
  match zs, hok, hl, hc with
  | [], _, hl, _ =>
    simp at hl; subst hl
    go_enter Try.func13, Try.ntmps13
    go_wp2
    go_ret
    exact ⟨⟨_, rfl⟩, (Below.refl _ _).alloc (Nat.le_refl _) _⟩
  | c0 :: c1 :: r, hok, hl, hc =>
    have h0 : w.cell? ⟨b, off, none⟩ = some (.int .u8 c0) := by simpa using hc 0 (by simp)
    have h1 : w.cell? ⟨b, off + 1, none⟩ = some (.int .u8 c1) := by simpa using hc 1 (by simp)
    have hn : (1 : Int) < (n : Int) := by simp at hl; omega
    have hn0 : ((n : Int) == 0) = false := by simp; omega
    simp only [okInt, Bool.not_eq_false', Bool.or_eq_true, Bool.and_eq_true, decide_eq_true_eq, beq_iff_eq] at hok
    clear hc hl
    rcases hok with ⟨rfl, hB⟩ | ⟨rfl, hB⟩
    · go_enter Try.func13, Try.ntmps13
      go_wp2
      go_ret
      exact ⟨⟨_, rfl⟩, (Below.refl _ _).alloc (Nat.le_refl _) _⟩
    · go_enter Try.func13, Try.ntmps13
      go_wp2
      go_ret
      exact ⟨⟨_, rfl⟩, (Below.refl _ _).alloc (Nat.le_refl _) _⟩
end Go.Proofs.Qxb6002407a
