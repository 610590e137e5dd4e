/-
  THE WALK of Decimal.round where it goes up, long digits.
-/
import Derived.Test.Qxb6600033aUp
import Derived.Laws.MakeOwn
import Derived.Laws.IdiomCopy
import Derived.ArgAppend
namespace Go.Proofs.Qxb6600033a
open Go.RowKit
set_option linter.unusedVariables false
set_option maxRecDepth 100000

theorem Addr.add_mid0 (b j : Nat) : (⟨b, 0, none⟩ : Addr).add j = ⟨b, j, none⟩ := by unfold Addr.add; split <;> simp_all
/-- Words that the walk does not lay open. -/
def mk25 (l c : Value) : Sem Value := Instr.makeSlice 25 l c
theorem mk25_eq (l c : Value) : Instr.makeSlice 25 l c = mk25 l c := rfl
def ap25 (ty : TypeId) (args : Array Value) : Sem Value := Builtin.append_ #[25, 25] ty args
theorem ap25_eq (ty : TypeId) (args : Array Value) : Builtin.append_ #[25, 25] ty args = ap25 ty args := rfl
def cp25 (ty : TypeId) (args : Array Value) : Sem Value := Builtin.copy_ #[25, 25] ty args
theorem cp25_eq (ty : TypeId) (args : Array Value) : Builtin.copy_ #[25, 25] ty args = cp25 ty args := rfl

theorem Try.facts5 : (Try.prog.info? 5).map (fun i => (i.zero, i.size, i.bytes)) = some (some (.int .u8 0), 1, 1) := by kernel_rfl
theorem Try.info5 : ∃ i, Try.prog.info? 5 = some i ∧ i.zero = some (.int .u8 0) ∧ i.size = 1 ∧ i.bytes = 1 := by
  have h := Try.facts5
  cases hq : Try.prog.info? 5 with
  | none => rw [hq] at h; cases h
  | some i =>
    rw [hq] at h
    simp at h
    exact ⟨i, rfl, h.1, h.2.1, h.2.2⟩

theorem make25 (w : World) (n : Nat) (hn : n ≤ 65537) : ∃ Z : Array Value, Z.size = n ∧ (∀ i, i < n → Z[i]? = some (.int .u8 0)) ∧ ∀ l : Nat, l ≤ n → (mk25 (.int .i64 (l : Int)) (.int .i64 (n : Int))).run Try.prog w = .ok (.slice (some ⟨w.heap.size, 0, none⟩) l n) (w.alloc (.cells Z 5)) := by
  obtain ⟨i, hi, hz, hs, hb⟩ := Try.info5
  refine ⟨madeCells (Value.int .u8 0).cells n, size_madeCells _ _, fun j hj => ?_, fun l hl => ?_⟩
  · simp [madeCells, hj, Value.cells, Nat.mod_one]
  · have := run_make (P := Try.prog) w 25 5 i (.int .u8 0) Try.underlying25 hi hz .i64 .i64 (l : Int) (n : Int) (by omega) (by omega) (by rw [hb]; omega) (by omega)
    rw [hs] at this
    simpa [mk25] using this

def vals8 (l : List Int) : List Value := l.map (fun x => .int .u8 x)
theorem vals8_length (l : List Int) : (vals8 l).length = l.length := List.length_map _
theorem vals8_get (l : List Int) (i : Nat) : (vals8 l)[i]? = if i < l.length then some (.int .u8 (dg l i)) else none := by
  by_cases h : i < l.length
  · rw [if_pos h]; simp [vals8, dg, List.getD_eq_getElem?_getD, h]
  · rw [if_neg h]; simp [vals8]; omega
theorem vals8_one (l : List Int) : ∀ v ∈ vals8 l, v.oneCell' = true := fun v hv => by
  simp [vals8] at hv
  obtain ⟨x, _, rfl⟩ := hv
  rfl

theorem take_own (w : World) (b m c : Nat) (ds : List Int) (hr : Row8 w b 0 ds) (hm : m < ds.length) (hmax : ds.length ≤ 65536) : ∃ W1 W2,
    (mk25 (.int .i64 0) (.int .i64 ((m : Int) + 1))).run Try.prog w = .ok (.slice (some ⟨w.heap.size, 0, none⟩) 0 (m + 1)) W1 ∧
    (∀ ty, (ap25 ty #[.slice (some ⟨w.heap.size, 0, none⟩) 0 (m + 1), .slice (some ⟨b, 0, none⟩) (m + 1) c]).run Try.prog W1 = .ok (.slice (some ⟨w.heap.size, 0, none⟩) (m + 1) (m + 1)) W2) ∧
    Below w.heap.size w W1 ∧ Below w.heap.size w W2 ∧ Row8 W2 w.heap.size 0 (ds.take (m + 1)) ∧ (∀ j, W2.frozen? ⟨w.heap.size, j, none⟩ = false) ∧ w.heap.size < W2.heap.size := by
  obtain ⟨i, hi, hz, hs, hb⟩ := Try.info5
  obtain ⟨Z, hZ, hZ0, hmk⟩ := make25 w (m + 1) (by omega)
  have hlen : (ds.take (m + 1)).length = m + 1 := by rw [List.length_take]; omega
  have hb0 : Below w.heap.size w (w.alloc (.cells Z 5)) := (Below.refl _ _).alloc (Nat.le_refl _) _
  have hget : ∀ (X : Array Value) (j : Nat), (w.alloc (.cells X 5)).cell? ⟨w.heap.size, j, none⟩ = X[j]? := fun X j => cell_of_row _ _ _ _ _ _ (heap_alloc_last w _)
  have hfr : ∀ (X : Array Value) (j : Nat), (w.alloc (.cells X 5)).frozen? ⟨w.heap.size, j, none⟩ = false := fun X j => frozen_of_row _ _ _ _ _ (heap_alloc_last w _)
  refine ⟨w.alloc (.cells Z 5), w.alloc (.cells (writeAt Z 0 (vals8 (ds.take (m + 1)))) 5), by have := hmk 0 (by omega); simpa using this, fun ty => ?_, hb0, (Below.refl _ _).alloc (Nat.le_refl _) _, fun j hj => ?_, fun j => hfr _ j, by simp⟩
  · have := run_append_room_cells (P := Try.prog) (w.alloc (.cells Z 5)) 25 ty 5 i Try.underlying25 hi w.heap.size 0 0 (m + 1) ⟨b, 0, none⟩ (m + 1) c (vals8 (ds.take (m + 1))) (by rw [vals8_length, hlen, hs]; omega)
      (fun j u hu => ?_) (vals8_one _) (by omega) (fun j hj => ?_) (fun j hj => ?_)
    · rw [setCells_alloc] at this
      simpa [ap25, hs] using this
    · rw [vals8_get] at hu
      split at hu
      · rename_i hj
        rw [hlen] at hj
        rw [← hu, Addr.add_mid0]
        have h1 := hr j (by omega)
        rw [Nat.zero_add] at h1
        rw [hb0.cell (World.block_lt_of_cell? w _ h1), h1, dg_take hj]
      · cases hu
    · rw [vals8_length, hlen] at hj
      rw [hs, hget, hZ0 _ (by omega)]; rfl
    · exact hfr _ _
  · rw [hlen] at hj
    rw [hget, get_writeAt _ _ _ _ (by rw [vals8_length, hlen, hZ]; omega), if_pos (by rw [vals8_length, hlen]; omega), vals8_get, if_pos (by rw [hlen]; omega)]
    simp

theorem copy_short : ∀ (vs : List Int) (o : Nat) (w : World) {D : Nat} {neg : Bool} {n : Int} {f : Nat → Int} {long : Value} {pt : Int}, DecAt w D neg n f long pt → o + vs.length ≤ 22 →
    ∃ f', DecAt (w.setCells D (2 + o) (vals8 vs)) D neg n f' long pt ∧ (∀ i, i < vs.length → f' (o + i) = dg vs i) ∧ (∀ i, i < o → f' i = f i)
  | [], o, w, D, neg, n, f, long, pt, h, _ => ⟨f, h, fun i hi => by simp at hi, fun i _ => rfl⟩
  | v :: r, o, w, D, neg, n, f, long, pt, h, hl => by
    simp only [List.length_cons] at hl
    obtain ⟨f', h1, h2, h3⟩ := copy_short r (o + 1) _ (h.setS o (by omega) v) (by omega)
    refine ⟨f', h1, fun i hi => ?_, fun i hi => ?_⟩
    · cases i with
      | zero => rw [Nat.add_zero, h3 o (by omega)]; simp [upd, dg]
      | succ i =>
        simp only [List.length_cons] at hi
        have := h2 i (by omega)
        rw [show o + (i + 1) = o + 1 + i from by omega, this]
        simp [dg]
    · rw [h3 i (by omega)]; simp [upd]; omega

theorem below_setCells {B D : Nat} (hB : B ≤ D) : ∀ (vs : List Value) (o : Nat) (w : World), Below B w (w.setCells D o vs)
  | [], _, w => Below.refl _ _
  | v :: r, o, w => ((Below.refl B w).setCell (p := ⟨D, o, none⟩) hB v).trans (below_setCells hB r (o + 1) _)

theorem copy_own {w : World} {D : Nat} {neg : Bool} {n : Int} {f : Nat → Int} {long : Value} {pt : Int} (h : DecAt w D neg n f long pt) (b m c : Nat) (ds : List Int) (hr : Row8 w b 0 ds) (hm : m < ds.length) (hm22 : m < 22) : ∃ W1 f',
    (∀ ty, (cp25 ty #[.slice (some ⟨D, 2, none⟩) 22 22, .slice (some ⟨b, 0, none⟩) (m + 1) c]).run Try.prog w = .ok (.int .i64 ((m : Int) + 1)) W1) ∧
    Below D w W1 ∧ DecAt W1 D neg n f' long pt ∧ (∀ i, i ≤ m → f' i = dg ds i) := by
  obtain ⟨i, hi, hz, hs, hb⟩ := Try.info5
  have hlen : (ds.take (m + 1)).length = m + 1 := by rw [List.length_take]; omega
  obtain ⟨f', h1, h2, _⟩ := copy_short (ds.take (m + 1)) 0 w h (by omega)
  refine ⟨_, f', fun ty => ?_, below_setCells (Nat.le_refl D) _ _ w, h1, fun i hi => ?_⟩
  · have := run_copy_cells (P := Try.prog) w 25 25 ty 5 D 2 22 22 ⟨b, 0, none⟩ (m + 1) c (vals8 (ds.take (m + 1))) Try.underlying25 (by rw [hi]; simp [hs]) (by rw [vals8_length, hlen]; simp [Nat.min_def]; omega)
      (fun j u hu => ?_) (fun j hj => ?_) (fun j hj => h.fr _) (vals8_one _)
    · rw [cp25, this, vals8_length, hlen]; simp [goInt]
    · rw [vals8_get] at hu
      split at hu
      · rename_i hj
        rw [hlen] at hj
        rw [← hu, Addr.add_mid0]
        have h1 := hr j (by omega)
        rw [Nat.zero_add] at h1
        rw [h1, dg_take hj]
      · cases hu
    · rw [vals8_length, hlen] at hj
      rw [h.short j (by omega)]; rfl
  · have := h2 i (by rw [hlen]; omega)
    rw [Nat.zero_add, dg_take (by omega)] at this
    exact this

theorem out_copy {w W1 : World} {D : Nat} {neg : Bool} {n : Int} {f' : Nat → Int} {long : Value} {pt : Int} {ds : List Int} {q m : Nat} {z : Int} (hb : Below D (w.drewN q) W1) (h : DecAt W1 D neg n f' long pt) (hf : ∀ i, i ≤ m → f' i = dg ds i) (hm : m < ds.length) (hm22 : m < 22) (q' : Nat) :
    Out w D neg pt (ds.take m ++ [z + 1]) 0 ((((W1.setCell ⟨D, 1, none⟩ (.int .u8 ((m : Int) + 1))).setCell ⟨D, 24, none⟩ (.slice none 0 0)).setCell ⟨D, 2 + m, none⟩ (.int .u8 (z + 1))).drewN q') := by
  have hd : DecAt ((((W1.setCell ⟨D, 1, none⟩ (.int .u8 ((m : Int) + 1))).setCell ⟨D, 24, none⟩ (.slice none 0 0)).setCell ⟨D, 2 + m, none⟩ (.int .u8 (z + 1))).drewN q') D neg ((m : Int) + 1) (upd f' m (z + 1)) (.slice none 0 0) (pt + (0 : Nat)) := by
    rw [show pt + ((0 : Nat) : Int) = pt from by omega]
    exact (row_world (h.set1 _)).setS m hm22 _
  have hlen : (ds.take m ++ [z + 1]).length = m + 1 := by simp; omega
  refine ⟨_, _, _, D, 2, 22, hd, rfl, ⟨hd.row (by omega) (fun i hi => ?_), by omega, .inl ⟨rfl, rfl, rfl, rfl, by rw [hlen]; omega⟩⟩, ?_⟩
  · rw [hlen] at hi
    rw [dg_stop (by omega) hi]
    unfold upd
    split
    · rfl
    · exact hf i (by omega)
  · exact ((((below_drewN D q w).trans hb).setCell (Nat.le_refl _) _).setCell (Nat.le_refl _) _ |>.setCell (Nat.le_refl _) _).trans (below_drewN _ _ _)

theorem out_own {w W2 : World} {D : Nat} {neg : Bool} {n : Int} {f : Nat → Int} {long : Value} {pt : Int} {ds : List Int} {q m : Nat} {z : Int} (hb : Below w.heap.size (w.drewN q) W2) (h : DecAt w D neg n f long pt) (hr : Row8 W2 w.heap.size 0 (ds.take (m + 1))) (hs : w.heap.size < W2.heap.size) (hm : m < ds.length) (q' : Nat) :
    Out w D neg pt (ds.take m ++ [z + 1]) 0 (((W2.setCell ⟨w.heap.size, m, none⟩ (.int .u8 (z + 1))).setCell ⟨D, 24, none⟩ (.slice (some ⟨w.heap.size, 0, none⟩) (m + 1) (m + 1))).drewN q') := by
  have hD : D < w.heap.size := (Array.getElem?_eq_some_iff.1 h).1
  have hne : (⟨w.heap.size, m, none⟩ : Addr).block ≠ D := by simp; omega
  have h2 : DecAt W2 D neg n f long pt := by
    unfold DecAt
    rw [hb.block D hD]
    exact h
  have h3 : DecAt (W2.setCell ⟨w.heap.size, m, none⟩ (.int .u8 (z + 1))) D neg n f long pt := by
    unfold DecAt
    rw [heap_setCell_other _ _ _ _ (by simp; omega)]
    exact h2
  have hd : DecAt (((W2.setCell ⟨w.heap.size, m, none⟩ (.int .u8 (z + 1))).setCell ⟨D, 24, none⟩ (.slice (some ⟨w.heap.size, 0, none⟩) (m + 1) (m + 1))).drewN q') D neg n f (.slice (some ⟨w.heap.size, 0, none⟩) (m + 1) (m + 1)) (pt + (0 : Nat)) := by
    rw [show pt + ((0 : Nat) : Int) = pt from by omega]
    exact row_world h3
  have hlen : (ds.take m ++ [z + 1]).length = m + 1 := by simp; omega
  have hlt : (ds.take (m + 1)).length = m + 1 := by rw [List.length_take]; omega
  refine ⟨_, _, _, w.heap.size, 0, m + 1, hd, rfl, ⟨fun i hi => ?_, by omega, .inr ⟨by rw [hlen], rfl, by omega, ?_⟩⟩, ?_⟩
  · rw [hlen] at hi
    rw [Nat.zero_add, dg_stop (by omega) hi]
    show ((W2.setCell ⟨w.heap.size, m, none⟩ (.int .u8 (z + 1))).setCell ⟨D, 24, none⟩ (.slice (some ⟨w.heap.size, 0, none⟩) (m + 1) (m + 1))).cell? ⟨w.heap.size, i, none⟩ = _
    rw [World.cell?_setCell_other _ _ _ _ (by intro e; injection e with e1 e2 e3; omega)]
    have hc := hr i (by omega)
    rw [Nat.zero_add, dg_take hi] at hc
    by_cases e : i = m
    · subst e
      rw [World.cell?_setCell_same _ _ _ hc, if_pos rfl]
    · rw [World.cell?_setCell_other _ _ _ _ (by intro e'; injection e' with e1 e2 e3; omega), hc, if_neg e]
  · show w.heap.size < ((W2.setCell ⟨w.heap.size, m, none⟩ (.int .u8 (z + 1))).setCell ⟨D, 24, none⟩ (.slice (some ⟨w.heap.size, 0, none⟩) (m + 1) (m + 1))).heap.size
    simp [World.setCell]
    exact hs
  · exact ((((below_drewN D q w).trans (hb.mono (by omega))).setCell (by simp; omega) _).setCell (Nat.le_refl _) _).trans (below_drewN _ _ _)

/-- 'd.short[:]'. -/
theorem slice24_all (D : Nat) (wx : World) : (Instr.sliceAt 24 (.pointer (some ⟨D, 2, none⟩)) none none none).run Try.prog wx = .ok (.slice (some ⟨D, 2, none⟩) 22 22) wx := by
  rw [run_sliceAt_array_all wx 24 ⟨D, 2, none⟩ Try.under24, Try.elem24, Try.size5, Try.arrayLen24]
  simp [Result.andThen, slicedAt, WideShapes.add_plain]

attribute [local go_sem ↓] st27_eq mk25_eq ap25_eq cp25_eq
attribute [local go_sem] isDec_drew isDec_drewN store27
set_option maxHeartbeats 8000000 in
theorem up_long {D : Nat} {neg : Bool} {n : Int} {f : Nat → Int} {long : Value} {pt : Int} {ds : List Int} {b off c : Nat} (k : Nat) (w : World) (h : DecAt w D neg n f long pt) (hs : Src w D n long ds b off c) (hd : IsDig ds) (hk : k < ds.length) (hm : ds.length ≤ 65536) (hpt : -10000 ≤ pt ∧ pt ≤ 10002) (hl : long = .slice (some ⟨b, 0, none⟩) ds.length c) (ht : UpTests k ds.length (dg ds k) (dg ds (k - 1))) (HU : Hid (goesUp ds k = true)) :
    Calls Try.prog 34 #[.pointer (some ⟨D, 0, none⟩), .int .i64 k] w fun e w' => e = .returned (.tuple #[]) ∧ ∃ rs grow, Rounded ds k rs grow ∧ Out w D neg pt rs grow w' := by
  obtain rfl : off = 0 := by
    rcases hs.2.2 with ⟨h1, _⟩ | ⟨_, h2, _⟩
    · rw [hl] at h1; simp at h1
    · exact h2
  have hkc : ds.length ≤ c := hs.2.1
  have hbD : b ≠ D ∧ b < w.heap.size := by
    rcases hs.2.2 with ⟨h1, _⟩ | ⟨_, _, h3, h4⟩
    · rw [hl] at h1; simp at h1
    · exact ⟨h3, h4⟩
  obtain ⟨x, HX, hx⟩ : ∃ x, Hid (dg ds k = x) ∧ w.cell? ⟨b, 0 + k, none⟩ = some (.int .u8 x) := ⟨_, rfl, hs.1 k hk⟩
  obtain ⟨y, HY, hyd, hy⟩ : ∃ y, Hid (dg ds (k - 1) = y) ∧ (48 ≤ y ∧ y ≤ 57) ∧ (0 < k → w.cell? ⟨b, 0 + (k - 1), none⟩ = some (.int .u8 y)) := ⟨_, rfl, dg_dig hd (by omega), fun h => hs.1 (k - 1) (by omega)⟩
  rw [HX.out, HY.out] at ht
  rw [Nat.zero_add] at hx hy
  have c24 : w.cell? ⟨D, 24, none⟩ = some long := h.cell 24
  have f24 : w.frozen? ⟨D, 24, none⟩ = false := h.fr 24
  have c1 : w.cell? ⟨D, 1, none⟩ = some (.int .u8 n) := h.cell 1
  have f1 : w.frozen? ⟨D, 1, none⟩ = false := h.fr 1
  have H : Hid (DecAt w D neg n f long pt ∧ Src w D n long ds b 0 c ∧ k < ds.length) := ⟨h, hs, hk⟩
  have HR : Hid (Row8 w b 0 ds ∧ ∀ i, i < ds.length → 48 ≤ dg ds i ∧ dg ds i ≤ 57) := ⟨hs.1, fun i hi => dg_dig hd hi⟩
  have hnil := fun wx a n c => run_neq_slice_nil (P := Try.prog) wx 25 5 a n c Try.underlying25
  have hk1 : (k : Int) < (ds.length : Int) := by omega
  have hnile := fun wx a n c => Lib.run_eql_slice_nil (P := Try.prog) wx 25 5 a n c 0 0 Try.underlying25
  clear h hs
  subst hl
  rcases ht with ⟨h0, h1⟩ | ⟨h0, h1, h2⟩ | ⟨h0, h1⟩ | ⟨h0, h1, h2⟩ | ⟨h0, h1, h2, h3⟩
  · have q1 : (x == 53) = false := by simp; omega
    have q1n : ¬ x < 53 := by omega
    have q3 : decide ((0 : Int) < (k : Int)) = false := decide_eq_false (by omega)
    have q3n : ¬ 0 < k := by omega
    clear h0 h1
    go_enter Try.func34, Try.ntmps34
    go_wp2_with fail
    refine (digits_src H.out.1 H.out.2.1).mono ?_
    rintro e w1 ⟨rfl, q, hw1⟩
    subst hw1
    go_wp2_with fail
    go_loop [8] (fun v => ∃ m : Nat, m ≤ k ∧ v = .int .i64 ((m : Int) - 1) ∧ Hid (∀ j, m ≤ j → j < k → dg ds j = 57)) (fun v => (intOf v + 1).toNat)
    case atStart => exact ⟨k, Nat.le_refl _, rfl, fun j h1 h2 => by omega⟩
    case round =>
      obtain ⟨m, hmk, rfl, HN⟩ := hrel
      by_cases hm0 : m = 0
      · subst hm0
        have hisd : IsDec w D := ⟨_, _, _, _, _, H.out.1⟩
        have c0 : w.cell? ⟨D, 0, none⟩ = some (.bool neg) := H.out.1.cell 0
        have c25 : w.cell? ⟨D, 25, none⟩ = some (.int .i64 pt) := H.out.1.cell 25
        go_wp2_with fail
        go_region
        go_wp2
        exact bodyPost_ret (v := .tuple #[]) (by simp [results, Try.results34, go_sem]) rfl ⟨rfl, _, _, .inr (.inr ⟨HU.out, fun j h => HN.out j (Nat.zero_le _) h, rfl, rfl⟩), out_carry H.out.1 _⟩
      · exfalso; omega
  · have q1 : (x == 53) = true := by simp; omega
    have q1n : ¬ x < 53 := by omega
    have q2 : ((k : Int) == (ds.length : Int) - 1) = false := by simp; omega
    have q3 : decide ((0 : Int) < (k : Int)) = false := decide_eq_false (by omega)
    have q3n : ¬ 0 < k := by omega
    clear h0 h1 h2
    go_enter Try.func34, Try.ntmps34
    go_wp2_with fail
    refine (digits_src H.out.1 H.out.2.1).mono ?_
    rintro e w1 ⟨rfl, q, hw1⟩
    subst hw1
    go_wp2_with fail
    go_loop [8] (fun v => ∃ m : Nat, m ≤ k ∧ v = .int .i64 ((m : Int) - 1) ∧ Hid (∀ j, m ≤ j → j < k → dg ds j = 57)) (fun v => (intOf v + 1).toNat)
    case atStart => exact ⟨k, Nat.le_refl _, rfl, fun j h1 h2 => by omega⟩
    case round =>
      obtain ⟨m, hmk, rfl, HN⟩ := hrel
      by_cases hm0 : m = 0
      · subst hm0
        have hisd : IsDec w D := ⟨_, _, _, _, _, H.out.1⟩
        have c0 : w.cell? ⟨D, 0, none⟩ = some (.bool neg) := H.out.1.cell 0
        have c25 : w.cell? ⟨D, 25, none⟩ = some (.int .i64 pt) := H.out.1.cell 25
        go_wp2_with fail
        go_region
        go_wp2
        exact bodyPost_ret (v := .tuple #[]) (by simp [results, Try.results34, go_sem]) rfl ⟨rfl, _, _, .inr (.inr ⟨HU.out, fun j h => HN.out j (Nat.zero_le _) h, rfl, rfl⟩), out_carry H.out.1 _⟩
      · exfalso; omega
  · have q1 : (x == 53) = false := by simp; omega
    have q1n : ¬ x < 53 := by omega
    have q3 : (0 : Int) < (k : Int) := by omega
    have hy := hy h0
    clear h1
    go_enter Try.func34, Try.ntmps34
    go_wp2_with fail
    refine (digits_src H.out.1 H.out.2.1).mono ?_
    rintro e w1 ⟨rfl, q, hw1⟩
    subst hw1
    go_wp2_with fail
    go_loop [8] (fun v => ∃ m : Nat, m ≤ k ∧ v = .int .i64 ((m : Int) - 1) ∧ Hid (∀ j, m ≤ j → j < k → dg ds j = 57)) (fun v => (intOf v + 1).toNat)
    case atStart => exact ⟨k, Nat.le_refl _, rfl, fun j h1 h2 => by omega⟩
    case round =>
      obtain ⟨m, hmk, rfl, HN⟩ := hrel
      by_cases hm0 : m = 0
      · subst hm0
        have hisd : IsDec w D := ⟨_, _, _, _, _, H.out.1⟩
        have c0 : w.cell? ⟨D, 0, none⟩ = some (.bool neg) := H.out.1.cell 0
        have c25 : w.cell? ⟨D, 25, none⟩ = some (.int .i64 pt) := H.out.1.cell 25
        go_wp2_with fail
        go_region
        go_wp2
        exact bodyPost_ret (v := .tuple #[]) (by simp [results, Try.results34, go_sem]) rfl ⟨rfl, _, _, .inr (.inr ⟨HU.out, fun j h => HN.out j (Nat.zero_le _) h, rfl, rfl⟩), out_carry H.out.1 _⟩
      · obtain ⟨m, rfl⟩ : ∃ i, m = i + 1 := ⟨m - 1, by omega⟩
        have em : (((m + 1 : Nat) : Int) - 1) = (m : Int) := by omega
        rw [em]
        clear em hm0
        obtain ⟨z, HZ, hzd, hz⟩ : ∃ z, Hid (dg ds m = z) ∧ (48 ≤ z ∧ z ≤ 57) ∧ w.cell? ⟨b, m, none⟩ = some (.int .u8 z) := ⟨_, rfl, HR.out.2 m (by omega), by have := HR.out.1 m (by omega); rwa [Nat.zero_add] at this⟩
        by_cases h9 : z = 57
        · subst h9
          have HN1 : Hid (∀ j, m ≤ j → j < k → dg ds j = 57) := fun j h1 h2 => by
            by_cases e : j = m
            · rw [e]; exact HZ.out
            · exact HN.out j (by omega) h2
          go_wp2
          go_round
          case rel => exact ⟨m, by omega, by go_num, HN1.out⟩
          case measure => simp [intOf]
        · have h9' : (z == 57) = false := by simpa using h9
          have hmc : (m : Int) + 1 ≤ (c : Int) := by omega
          have hmcn : m + 1 ≤ c := by omega
          have hm6 : (m : Int) ≤ 65536 := by omega
          by_cases hm22 : m < 22
          · obtain ⟨W1, f', hcp, HB, HD1, Hf⟩ : ∃ W1 f', (∀ ty, (cp25 ty #[.slice (some ⟨D, 2, none⟩) 22 22, .slice (some ⟨b, 0, none⟩) (m + 1) c]).run Try.prog (w.drewN (q + 1)) = .ok (.int .i64 ((m : Int) + 1)) W1) ∧ Hid (Below D (w.drewN (q + 1)) W1) ∧ Hid (DecAt W1 D neg n f' (.slice (some ⟨b, 0, none⟩) ds.length c) pt) ∧ Hid (∀ i, i ≤ m → f' i = dg ds i) :=
              copy_own (w := w.drewN (q + 1)) H.out.1 b m c ds HR.out.1 (by omega) hm22
            have k1 : W1.cell? ⟨D, 1, none⟩ = some (.int .u8 n) := HD1.out.cell 1
            have k1f : W1.frozen? ⟨D, 1, none⟩ = false := HD1.out.fr 1
            have k24 : W1.cell? ⟨D, 24, none⟩ = some (.slice (some ⟨b, 0, none⟩) ds.length c) := HD1.out.cell 24
            have k24f : W1.frozen? ⟨D, 24, none⟩ = false := HD1.out.fr 24
            have km : W1.cell? ⟨D, 2 + m, none⟩ = some (.int .u8 z) := by rw [HD1.out.short m hm22, Hf.out m (Nat.le_refl _), HZ.out]
            have kmf : W1.frozen? ⟨D, 2 + m, none⟩ = false := HD1.out.fr _
            have hm22i : (m : Int) < 22 := by omega
            have hne24 : ¬ (24 = 2 + m) := by omega
            have hsl0 := slice24_all D
            go_wp2_with fail
            go_region
            go_wp2_with fail
            go_region
            go_wp2
            exact bodyPost_end (v := .tuple #[]) (by simp [results, Try.results34, go_sem]) rfl ⟨rfl, _, _, .inr (.inl ⟨HU.out, rfl, m, by omega, by rw [HZ.out]; exact h9, fun j h1 h2 => HN.out j (by omega) h2, rfl⟩), by rw [HZ.out]; exact out_copy HB.out HD1.out Hf.out (by omega) hm22 1⟩
          · obtain ⟨W1, W2, hmk, hap, HB1, HB2, HR2, HF2, HS2⟩ : ∃ W1 W2, (mk25 (.int .i64 0) (.int .i64 ((m : Int) + 1))).run Try.prog (w.drewN (q + 1)) = .ok (.slice (some ⟨w.heap.size, 0, none⟩) 0 (m + 1)) W1 ∧
                (∀ ty, (ap25 ty #[.slice (some ⟨w.heap.size, 0, none⟩) 0 (m + 1), .slice (some ⟨b, 0, none⟩) (m + 1) c]).run Try.prog W1 = .ok (.slice (some ⟨w.heap.size, 0, none⟩) (m + 1) (m + 1)) W2) ∧
                Hid (Below w.heap.size (w.drewN (q + 1)) W1) ∧ Hid (Below w.heap.size (w.drewN (q + 1)) W2) ∧ Hid (Row8 W2 w.heap.size 0 (ds.take (m + 1))) ∧ Hid (∀ j, W2.frozen? ⟨w.heap.size, j, none⟩ = false) ∧ Hid (w.heap.size < W2.heap.size) :=
              take_own (w.drewN (q + 1)) b m c ds HR.out.1 (by omega) hm
            have hDlt : D < w.heap.size := World.block_lt_of_cell? w _ c24
            have k24 : W1.cell? ⟨D, 24, none⟩ = some (.slice (some ⟨b, 0, none⟩) ds.length c) := by rw [HB1.out.cell hDlt]; exact c24
            have l24 : W2.cell? ⟨D, 24, none⟩ = some (.slice (some ⟨b, 0, none⟩) ds.length c) := by rw [HB2.out.cell hDlt]; exact c24
            have l24f : W2.frozen? ⟨D, 24, none⟩ = false := by rw [HB2.out.frozen hDlt]; exact f24
            have km : W2.cell? ⟨w.heap.size, m, none⟩ = some (.int .u8 z) := by
              have := HR2.out m (by rw [List.length_take]; omega)
              rw [Nat.zero_add, dg_take (by omega), HZ.out] at this
              exact this
            have kmf : W2.frozen? ⟨w.heap.size, m, none⟩ = false := HF2.out m
            have hneD : ¬ (w.heap.size = D) := by omega
            have hneD2 : ¬ (D = w.heap.size) := by omega
            have hm22i : ¬ (m : Int) < 22 := by omega
            have hm22d : decide ((m : Int) < 22) = false := decide_eq_false hm22i
            go_wp2_with fail
            go_region
            go_wp2
            exact bodyPost_ret (v := .tuple #[]) (by simp [results, Try.results34, go_sem]) rfl ⟨rfl, _, _, .inr (.inl ⟨HU.out, rfl, m, by omega, by rw [HZ.out]; exact h9, fun j h1 h2 => HN.out j (by omega) h2, rfl⟩), by rw [HZ.out]; exact out_own HB2.out H.out.1 HR2.out HS2.out (by omega) 0⟩
  · have q1 : (x == 53) = true := by simp; omega
    have q1n : ¬ x < 53 := by omega
    have q2 : ((k : Int) == (ds.length : Int) - 1) = false := by simp; omega
    have q3 : (0 : Int) < (k : Int) := by omega
    have hy := hy h0
    clear h1 h2
    go_enter Try.func34, Try.ntmps34
    go_wp2_with fail
    refine (digits_src H.out.1 H.out.2.1).mono ?_
    rintro e w1 ⟨rfl, q, hw1⟩
    subst hw1
    go_wp2_with fail
    go_loop [8] (fun v => ∃ m : Nat, m ≤ k ∧ v = .int .i64 ((m : Int) - 1) ∧ Hid (∀ j, m ≤ j → j < k → dg ds j = 57)) (fun v => (intOf v + 1).toNat)
    case atStart => exact ⟨k, Nat.le_refl _, rfl, fun j h1 h2 => by omega⟩
    case round =>
      obtain ⟨m, hmk, rfl, HN⟩ := hrel
      by_cases hm0 : m = 0
      · subst hm0
        have hisd : IsDec w D := ⟨_, _, _, _, _, H.out.1⟩
        have c0 : w.cell? ⟨D, 0, none⟩ = some (.bool neg) := H.out.1.cell 0
        have c25 : w.cell? ⟨D, 25, none⟩ = some (.int .i64 pt) := H.out.1.cell 25
        go_wp2_with fail
        go_region
        go_wp2
        exact bodyPost_ret (v := .tuple #[]) (by simp [results, Try.results34, go_sem]) rfl ⟨rfl, _, _, .inr (.inr ⟨HU.out, fun j h => HN.out j (Nat.zero_le _) h, rfl, rfl⟩), out_carry H.out.1 _⟩
      · obtain ⟨m, rfl⟩ : ∃ i, m = i + 1 := ⟨m - 1, by omega⟩
        have em : (((m + 1 : Nat) : Int) - 1) = (m : Int) := by omega
        rw [em]
        clear em hm0
        obtain ⟨z, HZ, hzd, hz⟩ : ∃ z, Hid (dg ds m = z) ∧ (48 ≤ z ∧ z ≤ 57) ∧ w.cell? ⟨b, m, none⟩ = some (.int .u8 z) := ⟨_, rfl, HR.out.2 m (by omega), by have := HR.out.1 m (by omega); rwa [Nat.zero_add] at this⟩
        by_cases h9 : z = 57
        · subst h9
          have HN1 : Hid (∀ j, m ≤ j → j < k → dg ds j = 57) := fun j h1 h2 => by
            by_cases e : j = m
            · rw [e]; exact HZ.out
            · exact HN.out j (by omega) h2
          go_wp2
          go_round
          case rel => exact ⟨m, by omega, by go_num, HN1.out⟩
          case measure => simp [intOf]
        · have h9' : (z == 57) = false := by simpa using h9
          have hmc : (m : Int) + 1 ≤ (c : Int) := by omega
          have hmcn : m + 1 ≤ c := by omega
          have hm6 : (m : Int) ≤ 65536 := by omega
          by_cases hm22 : m < 22
          · obtain ⟨W1, f', hcp, HB, HD1, Hf⟩ : ∃ W1 f', (∀ ty, (cp25 ty #[.slice (some ⟨D, 2, none⟩) 22 22, .slice (some ⟨b, 0, none⟩) (m + 1) c]).run Try.prog (w.drewN (q + 1)) = .ok (.int .i64 ((m : Int) + 1)) W1) ∧ Hid (Below D (w.drewN (q + 1)) W1) ∧ Hid (DecAt W1 D neg n f' (.slice (some ⟨b, 0, none⟩) ds.length c) pt) ∧ Hid (∀ i, i ≤ m → f' i = dg ds i) :=
              copy_own (w := w.drewN (q + 1)) H.out.1 b m c ds HR.out.1 (by omega) hm22
            have k1 : W1.cell? ⟨D, 1, none⟩ = some (.int .u8 n) := HD1.out.cell 1
            have k1f : W1.frozen? ⟨D, 1, none⟩ = false := HD1.out.fr 1
            have k24 : W1.cell? ⟨D, 24, none⟩ = some (.slice (some ⟨b, 0, none⟩) ds.length c) := HD1.out.cell 24
            have k24f : W1.frozen? ⟨D, 24, none⟩ = false := HD1.out.fr 24
            have km : W1.cell? ⟨D, 2 + m, none⟩ = some (.int .u8 z) := by rw [HD1.out.short m hm22, Hf.out m (Nat.le_refl _), HZ.out]
            have kmf : W1.frozen? ⟨D, 2 + m, none⟩ = false := HD1.out.fr _
            have hm22i : (m : Int) < 22 := by omega
            have hne24 : ¬ (24 = 2 + m) := by omega
            have hsl0 := slice24_all D
            go_wp2_with fail
            go_region
            go_wp2_with fail
            go_region
            go_wp2
            exact bodyPost_end (v := .tuple #[]) (by simp [results, Try.results34, go_sem]) rfl ⟨rfl, _, _, .inr (.inl ⟨HU.out, rfl, m, by omega, by rw [HZ.out]; exact h9, fun j h1 h2 => HN.out j (by omega) h2, rfl⟩), by rw [HZ.out]; exact out_copy HB.out HD1.out Hf.out (by omega) hm22 1⟩
          · obtain ⟨W1, W2, hmk, hap, HB1, HB2, HR2, HF2, HS2⟩ : ∃ W1 W2, (mk25 (.int .i64 0) (.int .i64 ((m : Int) + 1))).run Try.prog (w.drewN (q + 1)) = .ok (.slice (some ⟨w.heap.size, 0, none⟩) 0 (m + 1)) W1 ∧
                (∀ ty, (ap25 ty #[.slice (some ⟨w.heap.size, 0, none⟩) 0 (m + 1), .slice (some ⟨b, 0, none⟩) (m + 1) c]).run Try.prog W1 = .ok (.slice (some ⟨w.heap.size, 0, none⟩) (m + 1) (m + 1)) W2) ∧
                Hid (Below w.heap.size (w.drewN (q + 1)) W1) ∧ Hid (Below w.heap.size (w.drewN (q + 1)) W2) ∧ Hid (Row8 W2 w.heap.size 0 (ds.take (m + 1))) ∧ Hid (∀ j, W2.frozen? ⟨w.heap.size, j, none⟩ = false) ∧ Hid (w.heap.size < W2.heap.size) :=
              take_own (w.drewN (q + 1)) b m c ds HR.out.1 (by omega) hm
            have hDlt : D < w.heap.size := World.block_lt_of_cell? w _ c24
            have k24 : W1.cell? ⟨D, 24, none⟩ = some (.slice (some ⟨b, 0, none⟩) ds.length c) := by rw [HB1.out.cell hDlt]; exact c24
            have l24 : W2.cell? ⟨D, 24, none⟩ = some (.slice (some ⟨b, 0, none⟩) ds.length c) := by rw [HB2.out.cell hDlt]; exact c24
            have l24f : W2.frozen? ⟨D, 24, none⟩ = false := by rw [HB2.out.frozen hDlt]; exact f24
            have km : W2.cell? ⟨w.heap.size, m, none⟩ = some (.int .u8 z) := by
              have := HR2.out m (by rw [List.length_take]; omega)
              rw [Nat.zero_add, dg_take (by omega), HZ.out] at this
              exact this
            have kmf : W2.frozen? ⟨w.heap.size, m, none⟩ = false := HF2.out m
            have hneD : ¬ (w.heap.size = D) := by omega
            have hneD2 : ¬ (D = w.heap.size) := by omega
            have hm22i : ¬ (m : Int) < 22 := by omega
            have hm22d : decide ((m : Int) < 22) = false := decide_eq_false hm22i
            go_wp2_with fail
            go_region
            go_wp2
            exact bodyPost_ret (v := .tuple #[]) (by simp [results, Try.results34, go_sem]) rfl ⟨rfl, _, _, .inr (.inl ⟨HU.out, rfl, m, by omega, by rw [HZ.out]; exact h9, fun j h1 h2 => HN.out j (by omega) h2, rfl⟩), by rw [HZ.out]; exact out_own HB2.out H.out.1 HR2.out HS2.out (by omega) 0⟩
  · have q1 : (x == 53) = true := by simp; omega
    have q1n : ¬ x < 53 := by omega
    have q2 : ((k : Int) == (ds.length : Int) - 1) = true := by simp; omega
    have q3 : (0 : Int) < (k : Int) := by omega
    have hy := hy h0
    clear h1 h2
    go_enter Try.func34, Try.ntmps34
    go_wp2_with fail
    refine (digits_src H.out.1 H.out.2.1).mono ?_
    rintro e w1 ⟨rfl, q, hw1⟩
    subst hw1
    go_wp2_with fail
    go_loop [8] (fun v => ∃ m : Nat, m ≤ k ∧ v = .int .i64 ((m : Int) - 1) ∧ Hid (∀ j, m ≤ j → j < k → dg ds j = 57)) (fun v => (intOf v + 1).toNat)
    case atStart => exact ⟨k, Nat.le_refl _, rfl, fun j h1 h2 => by omega⟩
    case round =>
      obtain ⟨m, hmk, rfl, HN⟩ := hrel
      by_cases hm0 : m = 0
      · subst hm0
        have hisd : IsDec w D := ⟨_, _, _, _, _, H.out.1⟩
        have c0 : w.cell? ⟨D, 0, none⟩ = some (.bool neg) := H.out.1.cell 0
        have c25 : w.cell? ⟨D, 25, none⟩ = some (.int .i64 pt) := H.out.1.cell 25
        go_wp2_with fail
        go_region
        go_wp2
        exact bodyPost_ret (v := .tuple #[]) (by simp [results, Try.results34, go_sem]) rfl ⟨rfl, _, _, .inr (.inr ⟨HU.out, fun j h => HN.out j (Nat.zero_le _) h, rfl, rfl⟩), out_carry H.out.1 _⟩
      · obtain ⟨m, rfl⟩ : ∃ i, m = i + 1 := ⟨m - 1, by omega⟩
        have em : (((m + 1 : Nat) : Int) - 1) = (m : Int) := by omega
        rw [em]
        clear em hm0
        obtain ⟨z, HZ, hzd, hz⟩ : ∃ z, Hid (dg ds m = z) ∧ (48 ≤ z ∧ z ≤ 57) ∧ w.cell? ⟨b, m, none⟩ = some (.int .u8 z) := ⟨_, rfl, HR.out.2 m (by omega), by have := HR.out.1 m (by omega); rwa [Nat.zero_add] at this⟩
        by_cases h9 : z = 57
        · subst h9
          have HN1 : Hid (∀ j, m ≤ j → j < k → dg ds j = 57) := fun j h1 h2 => by
            by_cases e : j = m
            · rw [e]; exact HZ.out
            · exact HN.out j (by omega) h2
          go_wp2
          go_round
          case rel => exact ⟨m, by omega, by go_num, HN1.out⟩
          case measure => simp [intOf]
        · have h9' : (z == 57) = false := by simpa using h9
          have hmc : (m : Int) + 1 ≤ (c : Int) := by omega
          have hmcn : m + 1 ≤ c := by omega
          have hm6 : (m : Int) ≤ 65536 := by omega
          by_cases hm22 : m < 22
          · obtain ⟨W1, f', hcp, HB, HD1, Hf⟩ : ∃ W1 f', (∀ ty, (cp25 ty #[.slice (some ⟨D, 2, none⟩) 22 22, .slice (some ⟨b, 0, none⟩) (m + 1) c]).run Try.prog (w.drewN (q + 1)) = .ok (.int .i64 ((m : Int) + 1)) W1) ∧ Hid (Below D (w.drewN (q + 1)) W1) ∧ Hid (DecAt W1 D neg n f' (.slice (some ⟨b, 0, none⟩) ds.length c) pt) ∧ Hid (∀ i, i ≤ m → f' i = dg ds i) :=
              copy_own (w := w.drewN (q + 1)) H.out.1 b m c ds HR.out.1 (by omega) hm22
            have k1 : W1.cell? ⟨D, 1, none⟩ = some (.int .u8 n) := HD1.out.cell 1
            have k1f : W1.frozen? ⟨D, 1, none⟩ = false := HD1.out.fr 1
            have k24 : W1.cell? ⟨D, 24, none⟩ = some (.slice (some ⟨b, 0, none⟩) ds.length c) := HD1.out.cell 24
            have k24f : W1.frozen? ⟨D, 24, none⟩ = false := HD1.out.fr 24
            have km : W1.cell? ⟨D, 2 + m, none⟩ = some (.int .u8 z) := by rw [HD1.out.short m hm22, Hf.out m (Nat.le_refl _), HZ.out]
            have kmf : W1.frozen? ⟨D, 2 + m, none⟩ = false := HD1.out.fr _
            have hm22i : (m : Int) < 22 := by omega
            have hne24 : ¬ (24 = 2 + m) := by omega
            have hsl0 := slice24_all D
            go_wp2_with fail
            go_region
            go_wp2_with fail
            go_region
            go_wp2
            exact bodyPost_end (v := .tuple #[]) (by simp [results, Try.results34, go_sem]) rfl ⟨rfl, _, _, .inr (.inl ⟨HU.out, rfl, m, by omega, by rw [HZ.out]; exact h9, fun j h1 h2 => HN.out j (by omega) h2, rfl⟩), by rw [HZ.out]; exact out_copy HB.out HD1.out Hf.out (by omega) hm22 1⟩
          · obtain ⟨W1, W2, hmk, hap, HB1, HB2, HR2, HF2, HS2⟩ : ∃ W1 W2, (mk25 (.int .i64 0) (.int .i64 ((m : Int) + 1))).run Try.prog (w.drewN (q + 1)) = .ok (.slice (some ⟨w.heap.size, 0, none⟩) 0 (m + 1)) W1 ∧
                (∀ ty, (ap25 ty #[.slice (some ⟨w.heap.size, 0, none⟩) 0 (m + 1), .slice (some ⟨b, 0, none⟩) (m + 1) c]).run Try.prog W1 = .ok (.slice (some ⟨w.heap.size, 0, none⟩) (m + 1) (m + 1)) W2) ∧
                Hid (Below w.heap.size (w.drewN (q + 1)) W1) ∧ Hid (Below w.heap.size (w.drewN (q + 1)) W2) ∧ Hid (Row8 W2 w.heap.size 0 (ds.take (m + 1))) ∧ Hid (∀ j, W2.frozen? ⟨w.heap.size, j, none⟩ = false) ∧ Hid (w.heap.size < W2.heap.size) :=
              take_own (w.drewN (q + 1)) b m c ds HR.out.1 (by omega) hm
            have hDlt : D < w.heap.size := World.block_lt_of_cell? w _ c24
            have k24 : W1.cell? ⟨D, 24, none⟩ = some (.slice (some ⟨b, 0, none⟩) ds.length c) := by rw [HB1.out.cell hDlt]; exact c24
            have l24 : W2.cell? ⟨D, 24, none⟩ = some (.slice (some ⟨b, 0, none⟩) ds.length c) := by rw [HB2.out.cell hDlt]; exact c24
            have l24f : W2.frozen? ⟨D, 24, none⟩ = false := by rw [HB2.out.frozen hDlt]; exact f24
            have km : W2.cell? ⟨w.heap.size, m, none⟩ = some (.int .u8 z) := by
              have := HR2.out m (by rw [List.length_take]; omega)
              rw [Nat.zero_add, dg_take (by omega), HZ.out] at this
              exact this
            have kmf : W2.frozen? ⟨w.heap.size, m, none⟩ = false := HF2.out m
            have hneD : ¬ (w.heap.size = D) := by omega
            have hneD2 : ¬ (D = w.heap.size) := by omega
            have hm22i : ¬ (m : Int) < 22 := by omega
            have hm22d : decide ((m : Int) < 22) = false := decide_eq_false hm22i
            go_wp2_with fail
            go_region
            go_wp2
            exact bodyPost_ret (v := .tuple #[]) (by simp [results, Try.results34, go_sem]) rfl ⟨rfl, _, _, .inr (.inl ⟨HU.out, rfl, m, by omega, by rw [HZ.out]; exact h9, fun j h1 h2 => HN.out j (by omega) h2, rfl⟩), by rw [HZ.out]; exact out_own HB2.out H.out.1 HR2.out HS2.out (by omega) 0⟩
end Go.Proofs.Qxb6600033a
