/-
  THE WALK of ZZMake; digits, ZZDigits, ZZNeg, ZZPoint.
-/
import Derived.Test.Qxb6600033aDec
import Derived.Laws.Tables
import Derived.Deep.WholeRow
import Derived.Laws.CopyOwn
namespace Go.Proofs.Qxb6600033a
open Go.RowKit
set_option linter.unusedVariables false
set_option maxRecDepth 100000

theorem Try.size5 (w : World) : (sizeOf 5).run Try.prog w = .ok 1 w := by kernel_rfl
theorem Try.info27 : (Try.prog.info? 27).map (·.size) = some 26 := by kernel_rfl
theorem dec26_size (neg : Bool) (n : Int) (f : Nat → Int) (long : Value) (pt : Int) : (dec26 neg n f long pt).size = 26 := rfl
theorem dec26_one (neg : Bool) (n : Int) (f : Nat → Int) (long : Value) (pt : Int) (hl : long.oneCell' = true) : (dec26 neg n f long pt).all (·.oneCell') = true := by
  have h : ∀ x ∈ (dec26 neg n f long pt).toList, x.oneCell' = true := by
    intro x hx
    simp only [dec26, List.mem_cons, List.not_mem_nil, or_false] at hx
    rcases hx with rfl | rfl | rfl | rfl | rfl | rfl | rfl | rfl | rfl | rfl | rfl | rfl | rfl | rfl | rfl | rfl | rfl | rfl | rfl | rfl | rfl | rfl | rfl | rfl | rfl | rfl <;> first | exact hl | rfl
  rw [Array.all_eq_true_iff_forall_mem]
  intro x hx
  exact h x (by simpa using hx)

theorem copy_make (neg : Bool) (s : ByteArray) (pt : Int) (w : World) (B : Nat) (hB : B = w.heap.size) (hs : s.size ≤ 22) :
    (Builtin.copy_ #[25, 9] 3 #[.slice (some ⟨B, 2, none⟩) 22 22, .string s]).run Try.prog (w.alloc (.cells (dec26 neg 0 (fun _ => 0) (.slice none 0 0) pt) 27)) =
      .ok (goInt s.size) (w.alloc (.cells (dec26 neg 0 (dg (nums s)) (.slice none 0 0) pt) 27)) := by
  subst hB
  rw [run_copy_string _ 25 9 3 5 _ 2 22 22 s Try.underlying25 Try.size5 hs ?_ ?_]
  · congr 1
    have := setCells_alloc w 27 (s.data.toList.map fun x => Value.int .u8 (x.toNat : Int)) (dec26 neg 0 (fun _ => 0) (.slice none 0 0) pt) 2
    rw [make_cells neg pt s hs] at this
    exact this
  · intro j hj
    rw [World.cell?_alloc_new, Nat.add_comm, dec26_get _ _ _ _ _ _ (by omega)]; rfl
  · intro j hj
    rw [frozen?_alloc_cells]
    simp [World.frozen?]

/-- A whole Decimal laid into the block that was made last. -/
theorem store_last {ops : Array Oper} {rest : List Oper} {o : Oper} {a : Act} {w : World} {Q : Exit → Act → World → Prop} (hgd : o.guard = none) (x y : Operand) (ho : o.op = .store 27 x y)
    (g : Nat) (hg : g = w.heap.size) (c : Array Value) (hc : c.size = 26) (neg : Bool) (n : Int) (f : Nat → Int) (long : Value) (pt : Int) (hl : long.oneCell' = true)
    (hx : a.eval x = .pointer (some ⟨g, 0, none⟩)) (hy : a.eval y = .agg (dec26 neg n f long pt))
    (h : wpList Try.prog ops Q rest (a.put o.dst undef) (w.alloc (.cells (dec26 neg n f long pt) 27))) : wpList Try.prog ops Q (o :: rest) a (w.alloc (.cells c 27)) := by
  subst hg
  refine wpList_store_row hgd 27 x y ho _ _ hx hy 27 c (heap_alloc_last w _) (by rw [Try.info27]; rfl) (by rw [hc]; rfl) (dec26_one _ _ _ _ _ hl) ?_
  rw [World.setRow_alloc_new]
  exact h

theorem setRow_alloc_2nd (w : World) (c c' : Array Value) (t : TypeId) (o : Obj) : ((w.alloc (.cells c t)).alloc o).setRow w.heap.size c' = (w.alloc (.cells c' t)).alloc o := by
  simp only [World.setRow, World.alloc]
  congr 1
  apply Array.ext_getElem?
  intro i
  rw [Array.getElem?_modify]
  by_cases h : w.heap.size = i
  · subst h
    simp [Array.getElem?_push]
  · have h' : ¬ i = w.heap.size := fun e => h e.symm
    simp [h, h', Array.getElem?_push]

/-- .. into the block made last but one. -/
theorem store_2nd {ops : Array Oper} {rest : List Oper} {o : Oper} {a : Act} {w : World} {Q : Exit → Act → World → Prop} (hgd : o.guard = none) (x y : Operand) (ho : o.op = .store 27 x y)
    (c : Array Value) (hc : c.size = 26) (ob : Obj) (neg : Bool) (n : Int) (f : Nat → Int) (long : Value) (pt : Int) (hl : long.oneCell' = true)
    (hx : a.eval x = .pointer (some ⟨w.heap.size, 0, none⟩)) (hy : a.eval y = .agg (dec26 neg n f long pt))
    (h : wpList Try.prog ops Q rest (a.put o.dst undef) ((w.alloc (.cells (dec26 neg n f long pt) 27)).alloc ob)) : wpList Try.prog ops Q (o :: rest) a ((w.alloc (.cells c 27)).alloc ob) := by
  refine wpList_store_row hgd 27 x y ho _ _ hx hy 27 c (heap_alloc2_old w _ _) (by rw [Try.info27]; rfl) (by rw [hc]; rfl) (dec26_one _ _ _ _ _ hl) ?_
  rw [setRow_alloc_2nd]
  exact h

/-- A whole Decimal read out of the block made last. -/
theorem load_last {ops : Array Oper} {rest : List Oper} {o : Oper} {a : Act} {w : World} {Q : Exit → Act → World → Prop} (hgd : o.guard = none) (x : Operand) (ho : o.op = .load 27 x)
    (g : Nat) (hg : g = w.heap.size) (neg : Bool) (n : Int) (f : Nat → Int) (long : Value) (pt : Int) (hx : a.eval x = .pointer (some ⟨g, 0, none⟩))
    (h : wpList Try.prog ops Q rest (a.put o.dst (.agg (dec26 neg n f long pt))) (w.alloc (.cells (dec26 neg n f long pt) 27))) : wpList Try.prog ops Q (o :: rest) a (w.alloc (.cells (dec26 neg n f long pt) 27)) := by
  subst hg
  exact wpList_load_row hgd 27 x ho _ hx 27 _ (0, 0) _ (heap_alloc_last w _) Try.underlying27 rfl (by rw [Try.info27]; rfl) h

theorem dec_get1 (neg : Bool) (n : Int) (f : Nat → Int) (long : Value) (pt : Int) : (dec26 neg n f long pt)[1]? = some (.int .u8 n) := rfl
theorem dec_get24 (neg : Bool) (n : Int) (f : Nat → Int) (long : Value) (pt : Int) : (dec26 neg n f long pt)[24]? = some long := rfl
theorem dec_set1 (neg : Bool) (n : Int) (f : Nat → Int) (long : Value) (pt : Int) (m : Int) : (dec26 neg n f long pt).setIfInBounds 1 (.int .u8 m) = dec26 neg m f long pt := rfl
theorem dec_set24 (neg : Bool) (n : Int) (f : Nat → Int) (long : Value) (pt : Int) (l : Value) : (dec26 neg n f long pt).setIfInBounds 24 l = dec26 neg n f l pt := rfl

set_option maxHeartbeats 2000000 in
theorem make_short (neg : Bool) (s : ByteArray) (pt : Int) (w : World) (hs : s.size ≤ 22) :
    Calls Try.prog 14 #[.bool neg, .string s, .int .i64 pt, .bool false] w fun e w' => e = .returned (.agg (dec26 neg s.size (dg (nums s)) (.slice none 0 0) pt)) ∧ Below w.heap.size w w' := by
  have g1 : decide ((22 : Int) < (s.size : Int)) = false := by simp; omega
  have hcp := fun (wx : World) (B : Nat) (hB : B = wx.heap.size) => copy_make neg s pt wx B hB hs
  have q1 := dec_get1
  have q2 := dec_set1
  have q3 := dec26_size
  go_enter Try.func14, Try.ntmps14
  go_wp2_with (first | (refine store_last rfl (.tmp 9) (.tmp 12) rfl _ (by simp) _ rfl neg 0 (fun _ => 0) (.slice none 0 0) pt rfl rfl rfl ?_) | (refine load_last rfl (.tmp 9) rfl _ (by simp) neg s.size (dg (nums s)) (.slice none 0 0) pt rfl ?_) | (refine store_2nd rfl (.tmp 8) (.tmp 34) rfl _ rfl _ neg s.size (dg (nums s)) (.slice none 0 0) pt rfl rfl rfl ?_))
  refine bodyPost_ret (v := .agg (dec26 neg s.size (dg (nums s)) (.slice none 0 0) pt)) (results_cell_row Try.results14 _ _ w.heap.size 27 _ (0, 0) _ rfl (heap_alloc2_old w _ _) Try.underlying27 rfl (by rw [Try.info27]; rfl)) rfl ⟨rfl, ((Below.refl _ _).alloc (Nat.le_refl _) _).alloc (by simp) _⟩

/-- The block of a Decimal. -/
def DecAt (w : World) (D : Nat) (neg : Bool) (n : Int) (f : Nat → Int) (long : Value) (pt : Int) : Prop := w.heap[D]? = some (.cells (dec26 neg n f long pt) 27 (0, 0))

/-- '[]byte(s)' of a string that is no constant. -/
theorem conv_bytes (W : World) (s : ByteArray) : ∃ w2 c, (convert 9 25 (.string s)).run Try.prog W = .ok (.slice (some ⟨W.heap.size, 0, none⟩) s.size c) w2 ∧
    Below W.heap.size W w2 ∧ Row8 w2 W.heap.size 0 (nums s) ∧ s.size ≤ c ∧ W.heap.size < w2.heap.size := by
  refine ⟨_, _, Lib.run_convert_string_bytes W 9 25 5 s Try.underlying9 Try.underlying25 Try.underlying5, ⟨rfl, rfl, rfl, ?_, fun k hk => Lib.bytesWorld_at_old W 5 s k hk⟩, ?_, ?_, ?_⟩
  · rw [Lib.bytesWorld_size]; omega
  · intro i hi
    rw [nums_length] at hi
    rw [Nat.zero_add, Lib.bytesWorld_cell W 5 s i hi]
    have hj : i < s.data.toList.length := by rw [Array.length_toList]; exact hi
    simp [dg, nums, List.getD_eq_getElem?_getD, List.getElem?_map, List.getElem?_eq_getElem hj]
  · exact grownCap_ge W s.size 0 5
  · rw [Lib.bytesWorld_size]; omega

theorem row_world {w2 : World} {D : Nat} {neg : Bool} {n : Int} {f : Nat → Int} {long l : Value} {pt : Int} (h : DecAt w2 D neg n f long pt) : DecAt (w2.setCell ⟨D, 24, none⟩ l) D neg n f l pt := by
  unfold DecAt
  rw [heap_setCell_same _ _ _ _ _ _ h, dec_set24]

/-- What holds the digits: short, or long in a row of its own. -/
def Holds (w : World) (D : Nat) (n : Int) (f : Nat → Int) (long : Value) (ds : List Int) : Prop :=
  (long = .slice none 0 0 ∧ n = ds.length ∧ ds.length ≤ 22 ∧ ∀ i, i < ds.length → f i = dg ds i) ∨
  (∃ g c, long = .slice (some ⟨g, 0, none⟩) ds.length c ∧ ds.length ≤ c ∧ g ≠ D ∧ g < w.heap.size ∧ Row8 w g 0 ds)

theorem long_end {w w2 : World} {c : Nat} {s : ByteArray} {l : Value} {cs : Array Value} (h : s.size ≤ c ∧ w.heap.size + 2 < w2.heap.size ∧ Row8 w2 (w.heap.size + 2) 0 (nums s) ∧ Below w.heap.size w w2) :
    s.size ≤ c ∧ w.heap.size + 2 < ((w2.setCell ⟨w.heap.size + 1, 24, none⟩ l).setRow w.heap.size cs).heap.size ∧ Row8 ((w2.setCell ⟨w.heap.size + 1, 24, none⟩ l).setRow w.heap.size cs) (w.heap.size + 2) 0 (nums s) ∧ Below w.heap.size w ((w2.setCell ⟨w.heap.size + 1, 24, none⟩ l).setRow w.heap.size cs) := by
  obtain ⟨h1, h2, h3, h4⟩ := h
  refine ⟨h1, by simp [World.setRow, World.setCell]; exact h2, fun i hi => ?_, below_setRow (h4.setCell (by simp) _) (Nat.le_refl _) _⟩
  have := h3 i hi
  rw [World.cell?_of_block (w := w2)]
  · exact this
  · show ((w2.setCell ⟨w.heap.size + 1, 24, none⟩ l).setRow w.heap.size cs).heap[w.heap.size + 2]? = w2.heap[w.heap.size + 2]?
    rw [setRow_other _ _ _ _ (by omega), heap_setCell_other _ _ _ _ (by simp)]

set_option maxHeartbeats 2000000 in
theorem make_long (neg lg : Bool) (s : ByteArray) (pt : Int) (w : World) (hm : s.size ≤ 65536) (hl : 22 < s.size ∨ (s.size ≤ 22 ∧ lg = true ∧ 0 < s.size)) :
    Calls Try.prog 14 #[.bool neg, .string s, .int .i64 pt, .bool lg] w fun e w' => ∃ g c, e = .returned (.agg (dec26 neg 0 (fun _ => 0) (.slice (some ⟨g, 0, none⟩) s.size c) pt)) ∧ s.size ≤ c ∧ g < w'.heap.size ∧ Row8 w' g 0 (nums s) ∧ Below w.heap.size w w' := by
  obtain ⟨w2, c, hcv, hb2, hr2, hcap, hlt2⟩ := conv_bytes ((w.alloc (.cells #[.bool false, .int .u8 0, .int .u8 0, .int .u8 0, .int .u8 0, .int .u8 0, .int .u8 0, .int .u8 0, .int .u8 0, .int .u8 0, .int .u8 0, .int .u8 0, .int .u8 0, .int .u8 0, .int .u8 0, .int .u8 0, .int .u8 0, .int .u8 0, .int .u8 0, .int .u8 0, .int .u8 0, .int .u8 0, .int .u8 0, .int .u8 0, .slice none 0 0, .int .i64 0] 27)).alloc (.cells (dec26 neg 0 (fun _ => 0) (.slice none 0 0) pt) 27)) s
  have hsz : ((w.alloc (.cells #[.bool false, .int .u8 0, .int .u8 0, .int .u8 0, .int .u8 0, .int .u8 0, .int .u8 0, .int .u8 0, .int .u8 0, .int .u8 0, .int .u8 0, .int .u8 0, .int .u8 0, .int .u8 0, .int .u8 0, .int .u8 0, .int .u8 0, .int .u8 0, .int .u8 0, .int .u8 0, .int .u8 0, .int .u8 0, .int .u8 0, .int .u8 0, .slice none 0 0, .int .i64 0] 27)).alloc (.cells (dec26 neg 0 (fun _ => 0) (.slice none 0 0) pt) 27)).heap.size = w.heap.size + 2 := by simp
  rw [hsz] at hcv hb2 hr2 hlt2
  have hB0 : DecAt w2 w.heap.size false 0 (fun _ => 0) (.slice none 0 0) 0 := by
    unfold DecAt
    rw [hb2.block _ (by omega), heap_alloc2_old]
    rfl
  have hB1 : DecAt w2 (w.heap.size + 1) neg 0 (fun _ => 0) (.slice none 0 0) pt := by
    unfold DecAt
    rw [hb2.block _ (by omega), heap_alloc2_new]
  have c24 : w2.cell? ⟨w.heap.size + 1, 24, none⟩ = some (.slice none 0 0) := by rw [cell_of_row _ _ _ _ _ _ hB1]; rfl
  have f24 : w2.frozen? ⟨w.heap.size + 1, 24, none⟩ = false := frozen_of_row _ _ _ _ _ hB1
  have hD := row_world (l := .slice (some ⟨w.heap.size + 2, 0, none⟩) s.size c) hB1
  have hD0 : DecAt (w2.setCell ⟨w.heap.size + 1, 24, none⟩ (.slice (some ⟨w.heap.size + 2, 0, none⟩) s.size c)) w.heap.size false 0 (fun _ => 0) (.slice none 0 0) 0 := by
    unfold DecAt
    rw [heap_setCell_other _ _ _ _ (by simp)]
    exact hB0
  have HF : Hid (s.size ≤ c ∧ w.heap.size + 2 < w2.heap.size ∧ Row8 w2 (w.heap.size + 2) 0 (nums s) ∧ Below w.heap.size w w2) := by
    refine ⟨hcap, hlt2, hr2, ?_⟩
    exact (((Below.refl w.heap.size w).alloc (Nat.le_refl _) _).alloc (by simp) _).trans (hb2.mono (by omega))
  have hfin : DecAt ((w2.setCell ⟨w.heap.size + 1, 24, none⟩ (.slice (some ⟨w.heap.size + 2, 0, none⟩) s.size c)).setRow w.heap.size (dec26 neg 0 (fun _ => 0) (.slice (some ⟨w.heap.size + 2, 0, none⟩) s.size c) pt)) w.heap.size neg 0 (fun _ => 0) (.slice (some ⟨w.heap.size + 2, 0, none⟩) s.size c) pt := setRow_heap _ _ _ _ _ _ hD0
  have HFin := show Hid _ from hfin
  clear hfin
  have HEnd := show Hid _ from long_end (l := .slice (some ⟨w.heap.size + 2, 0, none⟩) s.size c) (cs := dec26 neg 0 (fun _ => 0) (.slice (some ⟨w.heap.size + 2, 0, none⟩) s.size c) pt) HF.out
  have HD := show Hid _ from hD
  have HD0 := show Hid _ from hD0
  clear hb2 hr2 hcap hlt2 hB0 hB1 hD hD0 hsz
  rcases hl with h | ⟨h, rfl, h0⟩
  · have g1 : (22 : Int) < (s.size : Int) := by omega
    go_enter Try.func14, Try.ntmps14
    go_wp2_with (first | (refine store_last rfl (.tmp 9) (.tmp 12) rfl _ (by simp) _ rfl neg 0 (fun _ => 0) (.slice none 0 0) pt rfl rfl rfl ?_) | (refine wpList_load_row rfl 27 (.tmp 9) rfl _ rfl 27 (dec26 neg 0 (fun _ => 0) (.slice (some ⟨w.heap.size + 2, 0, none⟩) s.size c) pt) (0, 0) _ (by exact HD.out) Try.underlying27 rfl (by rw [Try.info27]; rfl) ?_) | (refine wpList_store_row rfl 27 (.tmp 8) (.tmp 27) rfl w.heap.size (dec26 neg 0 (fun _ => 0) (.slice (some ⟨w.heap.size + 2, 0, none⟩) s.size c) pt) rfl rfl 27 (dec26 false 0 (fun _ => 0) (.slice none 0 0) 0) (by exact HD0.out) (by rw [Try.info27]; rfl) rfl (by exact dec26_one _ _ _ _ _ rfl) ?_))
    exact bodyPost_ret (v := .agg (dec26 neg 0 (fun _ => 0) (.slice (some ⟨w.heap.size + 2, 0, none⟩) s.size c) pt)) (results_cell_row Try.results14 _ _ w.heap.size 27 _ (0, 0) _ rfl HFin.out Try.underlying27 rfl (by rw [Try.info27]; rfl)) rfl ⟨w.heap.size + 2, c, rfl, HEnd.out⟩
  · have g1 : decide ((22 : Int) < (s.size : Int)) = false := by simp; omega
    have g2 : (0 : Int) < (s.size : Int) := by omega
    go_enter Try.func14, Try.ntmps14
    go_wp2_with (first | (refine store_last rfl (.tmp 9) (.tmp 12) rfl _ (by simp) _ rfl neg 0 (fun _ => 0) (.slice none 0 0) pt rfl rfl rfl ?_) | (refine wpList_load_row rfl 27 (.tmp 9) rfl _ rfl 27 (dec26 neg 0 (fun _ => 0) (.slice (some ⟨w.heap.size + 2, 0, none⟩) s.size c) pt) (0, 0) _ (by exact HD.out) Try.underlying27 rfl (by rw [Try.info27]; rfl) ?_) | (refine wpList_store_row rfl 27 (.tmp 8) (.tmp 27) rfl w.heap.size (dec26 neg 0 (fun _ => 0) (.slice (some ⟨w.heap.size + 2, 0, none⟩) s.size c) pt) rfl rfl 27 (dec26 false 0 (fun _ => 0) (.slice none 0 0) 0) (by exact HD0.out) (by rw [Try.info27]; rfl) rfl (by exact dec26_one _ _ _ _ _ rfl) ?_))
    exact bodyPost_ret (v := .agg (dec26 neg 0 (fun _ => 0) (.slice (some ⟨w.heap.size + 2, 0, none⟩) s.size c) pt)) (results_cell_row Try.results14 _ _ w.heap.size 27 _ (0, 0) _ rfl HFin.out Try.underlying27 rfl (by rw [Try.info27]; rfl)) rfl ⟨w.heap.size + 2, c, rfl, HEnd.out⟩
end Go.Proofs.Qxb6600033a
