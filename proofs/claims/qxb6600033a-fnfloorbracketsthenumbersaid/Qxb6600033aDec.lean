/-
  DECIMALS IN MEMORY (block D: neg, n, 22 short digits, long, point), ZZMake, digits, ZZNeg, ZZPoint.
-/
import Derived.Test.Qxb6600033aRows
import Derived.WalkKit
import Derived.ProofKit
import Derived.ShutString
import Derived.ChangeOld
import Derived.Below
import Derived.WalkSpells
import Derived.WalkLawsBesides
import Derived.Outline
import Derived.Deep.QuietTactic
import Derived.BigQuiet
import Derived.RegionTactic
import Derived.BigRegion
import Derived.Lib.LazyBuf
import Derived.Lib.ConvBytes
import Derived.Laws.BytesArg
namespace Go.Proofs.Qxb6600033a
open Go.RowKit
set_option linter.unusedVariables false
set_option maxRecDepth 100000

/-- Digit i of a list; 0 behind its end. (No abbreviation: the walk must leave it standing.) -/
def dg (ds : List Int) (i : Nat) : Int := ds.getD i 0
/-- A string's bytes as numbers. -/
def nums (s : ByteArray) : List Int := s.data.toList.map fun b => (b.toNat : Int)
theorem nums_length (s : ByteArray) : (nums s).length = s.size := by
  unfold nums; rw [List.length_map]; exact Array.length_toList

/-- The bytes 'zs' lie at block b from off on. -/
def Row8 (w : World) (b off : Nat) (zs : List Int) : Prop := ∀ i, i < zs.length → w.cell? ⟨b, off + i, none⟩ = some (.int .u8 (dg zs i))

theorem Row8.below {w w' : World} {b off : Nat} {zs : List Int} (h : Row8 w b off zs) (hb : Below w.heap.size w w') : Row8 w' b off zs := fun i hi => by
  have := h i hi
  rw [hb.cell (World.block_lt_of_cell? w _ this)]
  exact this

/-- Cells written one behind the other. -/
def writeAt (cur : Array Value) : Nat → List Value → Array Value
  | _, [] => cur
  | o, v :: r => writeAt (cur.setIfInBounds o v) (o + 1) r

theorem setCells_alloc (w : World) (t : TypeId) : ∀ (vs : List Value) (cur : Array Value) (o : Nat), (w.alloc (.cells cur t)).setCells w.heap.size o vs = w.alloc (.cells (writeAt cur o vs) t)
  | [], _, _ => rfl
  | v :: r, cur, o => by
    rw [World.setCells, writeAt, ← setCells_alloc w t r]
    congr 1
    exact World.setCell_alloc_at _ _ _ _ _ rfl

theorem size_writeAt : ∀ (vs : List Value) (cur : Array Value) (o : Nat), (writeAt cur o vs).size = cur.size
  | [], _, _ => rfl
  | v :: r, cur, o => by rw [writeAt, size_writeAt r]; simp
theorem get_writeAt : ∀ (vs : List Value) (cur : Array Value) (o i : Nat), o + vs.length ≤ cur.size → (writeAt cur o vs)[i]? = if o ≤ i ∧ i < o + vs.length then vs[i - o]? else cur[i]?
  | [], cur, o, i, _ => by simp [writeAt]; omega
  | v :: r, cur, o, i, h => by
    simp only [List.length_cons] at h
    rw [writeAt, get_writeAt r _ _ _ (by simp; omega)]
    by_cases h1 : o + 1 ≤ i ∧ i < o + 1 + r.length
    · rw [if_pos h1, if_pos (by simp; omega), show i - o = (i - (o + 1)) + 1 from by omega]
      simp
    · rw [if_neg h1]
      by_cases h2 : i = o
      · subst h2
        rw [if_pos (by simp), Array.getElem?_setIfInBounds_self_of_lt (by omega)]
        simp
      · rw [if_neg (by simp; omega), Array.getElem?_setIfInBounds_ne (by omega)]

/-- The 26 cells of a Decimal. -/
def dec26 (neg : Bool) (n : Int) (f : Nat → Int) (long : Value) (pt : Int) : Array Value := #[.bool neg, .int .u8 n, .int .u8 (f 0), .int .u8 (f 1), .int .u8 (f 2), .int .u8 (f 3), .int .u8 (f 4), .int .u8 (f 5), .int .u8 (f 6), .int .u8 (f 7), .int .u8 (f 8), .int .u8 (f 9), .int .u8 (f 10), .int .u8 (f 11), .int .u8 (f 12), .int .u8 (f 13), .int .u8 (f 14), .int .u8 (f 15), .int .u8 (f 16), .int .u8 (f 17), .int .u8 (f 18), .int .u8 (f 19), .int .u8 (f 20), .int .u8 (f 21), long, .int .i64 pt]

theorem dec26_get (neg : Bool) (n : Int) (f : Nat → Int) (long : Value) (pt : Int) (i : Nat) (hi : i < 22) : (dec26 neg n f long pt)[i + 2]? = some (.int .u8 (f i)) := by
  match i, hi with
  | 0, _ => rfl
  | 1, _ => rfl
  | 2, _ => rfl
  | 3, _ => rfl
  | 4, _ => rfl
  | 5, _ => rfl
  | 6, _ => rfl
  | 7, _ => rfl
  | 8, _ => rfl
  | 9, _ => rfl
  | 10, _ => rfl
  | 11, _ => rfl
  | 12, _ => rfl
  | 13, _ => rfl
  | 14, _ => rfl
  | 15, _ => rfl
  | 16, _ => rfl
  | 17, _ => rfl
  | 18, _ => rfl
  | 19, _ => rfl
  | 20, _ => rfl
  | 21, _ => rfl
  | k + 22, h => omega

theorem make_cells (neg : Bool) (pt : Int) (s : ByteArray) (h : s.size ≤ 22) :
    writeAt (dec26 neg 0 (fun _ => 0) (.slice none 0 0) pt) 2 (s.data.toList.map fun x => Value.int .u8 (x.toNat : Int)) = dec26 neg 0 (dg (nums s)) (.slice none 0 0) pt := by
  have hl : (s.data.toList.map fun x => Value.int .u8 (x.toNat : Int)).length = s.size := by rw [List.length_map]; exact Array.length_toList
  apply Array.ext_getElem?
  intro i
  rw [get_writeAt _ _ _ _ (by rw [hl]; show 2 + s.size ≤ 26; omega), hl]
  by_cases h1 : 2 ≤ i ∧ i < 2 + s.size
  · obtain ⟨j, rfl⟩ : ∃ j, i = j + 2 := ⟨i - 2, by omega⟩
    rw [if_pos h1, dec26_get _ _ _ _ _ _ (by omega), show j + 2 - 2 = j from rfl]
    have hj : j < s.data.toList.length := by rw [Array.length_toList]; show j < s.size; omega
    simp [dg, nums, List.getD_eq_getElem?_getD, List.getElem?_map, List.getElem?_eq_getElem hj]
  · rw [if_neg h1]
    by_cases h2 : 2 ≤ i ∧ i < 24
    · obtain ⟨j, rfl⟩ : ∃ j, i = j + 2 := ⟨i - 2, by omega⟩
      rw [dec26_get _ _ _ _ _ _ (by omega), dec26_get _ _ _ _ _ _ (by omega)]
      have : dg (nums s) j = 0 := by
        unfold dg
        rw [List.getD_eq_getElem?_getD, List.getElem?_eq_none (by rw [nums_length]; omega)]; rfl
      rw [this]
    · rcases i with _ | _ | i
      · rfl
      · rfl
      · by_cases h3 : i = 22
        · subst h3; rfl
        · by_cases h4 : i = 23
          · subst h4; rfl
          · rw [Array.getElem?_eq_none (by show 26 ≤ i + 2; omega), Array.getElem?_eq_none (by show 26 ≤ i + 2; omega)]
end Go.Proofs.Qxb6600033a
