/-
  COPIES OF BYTES; THE WALK of zzB1ItoaU.
-/
import Derived.Test.Qxb6600033aSub
import Derived.Test.Qxb6600033aFlPlain
namespace Go.Proofs.Qxb6600033a
open Go.RowKit
set_option linter.unusedVariables false
set_option maxRecDepth 100000

theorem addr_add (b o j : Nat) : (⟨b, o, none⟩ : Addr).add j = ⟨b, o + j, none⟩ := by unfold Addr.add; split <;> simp_all

theorem buf_cells : ∀ (vs : List Int) (o : Nat) (w : World) {g n : Nat} {F : Nat → Int}, Buf w g n F → o + vs.length ≤ n →
    ∃ F', Buf (w.setCells g o (vals8 vs)) g n F' ∧ (∀ i, i < vs.length → F' (o + i) = dg vs i) ∧ (∀ i, i < o → F' i = F i) ∧ (∀ i, o + vs.length ≤ i → F' i = F i)
  | [], o, w, g, n, F, h, _ => ⟨F, h, fun i hi => by simp at hi, fun i _ => rfl, fun i _ => rfl⟩
  | v :: r, o, w, g, n, F, h, hl => by
    simp only [List.length_cons] at hl
    obtain ⟨F', h1, h2, h3, h4⟩ := buf_cells r (o + 1) _ (h.set (i := o) (by omega) v) (by omega)
    refine ⟨F', h1, fun i hi => ?_, fun i hi => ?_, fun i hi => ?_⟩
    · cases i with
      | zero => rw [Nat.add_zero, h3 o (by omega)]; simp [upd, dg]
      | succ i =>
        simp only [List.length_cons] at hi
        have := h2 i (by omega)
        rw [show o + (i + 1) = o + 1 + i from by omega, this]
        simp [dg]
    · rw [h3 i (by omega)]; simp [upd]; omega
    · simp only [List.length_cons] at hi
      rw [h4 i (by omega)]; simp [upd]; omega

/-- 'copy(out, src)' into a row of its own. -/
theorem copy_into {w : World} {g n : Nat} {F : Nat → Int} (h : Buf w g n F) (b off c : Nat) (xs : List Int) (hr : Row8 w b off xs) (hl : xs.length ≤ n) : ∃ W1 F',
    (∀ ty, (cp25 ty #[.slice (some ⟨g, 0, none⟩) n n, .slice (some ⟨b, off, none⟩) xs.length c]).run Try.prog w = .ok (.int .i64 (xs.length : Int)) W1) ∧
    Hid (Below g w W1 ∧ Buf W1 g n F' ∧ (∀ i, i < xs.length → F' i = dg xs i) ∧ (∀ i, xs.length ≤ i → F' i = F i)) := by
  obtain ⟨i, hi, hz, hs, hb⟩ := Try.info5
  obtain ⟨F', h1, h2, h3, h4⟩ := buf_cells xs 0 w h (by omega)
  refine ⟨_, F', fun ty => ?_, below_setCells (Nat.le_refl g) _ _ w, h1, fun i hi => ?_, fun i hi => h4 i (by omega)⟩
  · have := run_copy_cells (P := Try.prog) w 25 25 ty 5 g 0 n n ⟨b, off, none⟩ xs.length c (vals8 xs) Try.underlying25 (by rw [hi]; simp [hs]) (by rw [vals8_length]; simp [Nat.min_def]; omega)
      (fun j u hu => ?_) (fun j hj => ?_) (fun j hj => h.fr _) (vals8_one _)
    · rw [cp25, this, vals8_length]; simp [goInt]
    · rw [vals8_get] at hu
      split at hu
      · rename_i hj
        rw [← hu, addr_add]
        exact hr j hj
      · cases hu
    · rw [vals8_length] at hj
      rw [Nat.zero_add, h.cell (by omega)]; rfl
  · have := h2 i hi
    rwa [Nat.zero_add] at this

theorem Try.arrayLen67 : Try.prog.arrayLen 67 = 20 := by kernel_rfl
theorem Try.elem67 : Try.prog.elem 67 = 5 := by kernel_rfl
theorem Try.under67 : Try.prog.underlying 67 = some (.array (Try.prog.arrayLen 67) (Try.prog.elem 67)) := by kernel_rfl
/-- 'buf[k:]'. -/
theorem slice67 (g k : Nat) (kd : IntKind) (hk : k < 20) (wx : World) : (Instr.sliceAt 67 (.pointer (some ⟨g, 0, none⟩)) (some (.int kd (k : Int))) none none).run Try.prog wx = .ok (.slice (some ⟨g, k, none⟩) (20 - k) (20 - k)) wx := by
  rw [run_sliceAt_array_l wx 67 ⟨g, 0, none⟩ Try.under67 kd k (by omega) (by rw [Try.arrayLen67]; omega), Try.elem67, Try.size5, Try.arrayLen67]
  simp [Result.andThen, slicedAt, WideShapes.add_plain]
  omega

/-- The array of 20 bytes at block g. -/
def Arr (w : World) (g : Nat) (F : Nat → Int) : Prop := ∃ A : Array Value, w.heap[g]? = some (.cells A 67 (0, 0)) ∧ A.size = 20 ∧ ∀ i, i < 20 → A[i]? = some (.int .u8 (F i))
theorem Arr.cell {w : World} {g : Nat} {F : Nat → Int} (h : Arr w g F) {i : Nat} (hi : i < 20) : w.cell? ⟨g, i, none⟩ = some (.int .u8 (F i)) := by
  obtain ⟨A, h1, h2, h3⟩ := h
  rw [cell_of_row _ _ _ _ _ _ h1, h3 i hi]
theorem Arr.fr {w : World} {g : Nat} {F : Nat → Int} (h : Arr w g F) (i : Nat) : w.frozen? ⟨g, i, none⟩ = false := by
  obtain ⟨A, h1, h2, h3⟩ := h
  exact frozen_of_row _ _ _ _ _ h1
theorem Arr.set {w : World} {g : Nat} {F : Nat → Int} (h : Arr w g F) {i : Nat} (hi : i < 20) (v : Int) : Arr (w.setCell ⟨g, i, none⟩ (.int .u8 v)) g (upd F i v) := by
  obtain ⟨A, h1, h2, h3⟩ := h
  refine ⟨A.setIfInBounds i (.int .u8 v), heap_setCell_same _ _ _ _ _ _ h1, by simpa using h2, fun j hj => ?_⟩
  unfold upd
  by_cases e : j = i
  · subst e; rw [if_pos rfl, Array.getElem?_setIfInBounds_self_of_lt (by omega)]
  · rw [if_neg e, Array.getElem?_setIfInBounds_ne (by omega), h3 j hj]
theorem arr_new (w : World) : Arr (w.alloc (.cells #[.int .u8 0, .int .u8 0, .int .u8 0, .int .u8 0, .int .u8 0, .int .u8 0, .int .u8 0, .int .u8 0, .int .u8 0, .int .u8 0, .int .u8 0, .int .u8 0, .int .u8 0, .int .u8 0, .int .u8 0, .int .u8 0, .int .u8 0, .int .u8 0, .int .u8 0, .int .u8 0] 67)) w.heap.size (fun _ => 0) := by
  refine ⟨_, heap_alloc_last w _, rfl, fun i hi => ?_⟩
  rw [show (#[.int .u8 0, .int .u8 0, .int .u8 0, .int .u8 0, .int .u8 0, .int .u8 0, .int .u8 0, .int .u8 0, .int .u8 0, .int .u8 0, .int .u8 0, .int .u8 0, .int .u8 0, .int .u8 0, .int .u8 0, .int .u8 0, .int .u8 0, .int .u8 0, .int .u8 0, .int .u8 0] : Array Value) = Array.replicate 20 (.int .u8 0) from rfl]
  simp [hi]

/-- The digits k.. of X lie in F; Y is what is left. -/
def ItoaInv (X Y : Int) (k : Nat) (F : Nat → Int) : Prop := ∃ zs : List Int, zs.length = 20 - k ∧ IsDig zs ∧ (∀ j, j < 20 - k → F (k + j) = dg zs j) ∧ X = Y * 10 ^ (20 - k) + val10 zs
theorem itoa_step {X Y : Int} {m : Nat} {F : Nat → Int} (h : ItoaInv X Y (m + 1) F) (hm : m + 1 ≤ 20) (hY : 0 ≤ Y) : ItoaInv X (Y / 10) m (upd F m (48 + Y % 10)) := by
  obtain ⟨zs, h1, h2, h3, h4⟩ := h
  have e1 : 20 - m = (20 - (m + 1)) + 1 := by omega
  refine ⟨(48 + Y % 10) :: zs, by rw [List.length_cons, h1]; omega, fun z hz => ?_, fun t ht => ?_, ?_⟩
  · rcases List.mem_cons.1 hz with rfl | hz
    · omega
    · exact h2 z hz
  · unfold upd
    cases t with
    | zero => rw [if_pos (by omega)]; rfl
    | succ t =>
      rw [if_neg (by omega)]
      have := h3 t (by omega)
      rw [show m + 1 + t = m + (t + 1) from by omega] at this
      rw [this]
      simp [dg]
  · rw [val_cons, h1, e1, Int.pow_succ, h4]
    generalize (10 : Int) ^ (20 - (m + 1)) = P
    have e2 : Y / 10 * (P * 10) = (Y / 10 * 10) * P := by rw [Int.mul_comm P 10, Int.mul_assoc]
    have e3 : Y = Y / 10 * 10 + Y % 10 := by omega
    have e4 : Y * P = (Y / 10 * 10) * P + (Y % 10) * P := by rw [← Int.add_mul, ← e3]
    rw [e2, e4, show 48 + Y % 10 - 48 = Y % 10 from by omega]
    omega
theorem itoa_more {X Y : Int} {k : Nat} {F : Nat → Int} (h : ItoaInv X Y k F) (hX : X ≤ 18446744073709551615) (hY : 0 < Y) : 1 ≤ k := by
  obtain ⟨zs, h1, h2, h3, h4⟩ := h
  rcases Nat.eq_zero_or_pos k with rfl | h'
  · exfalso
    have hb := val_bounds zs h2
    have h10 : (10 : Int) ^ (20 - 0) = 100000000000000000000 := rfl
    rw [h10] at h4
    omega
  · exact h'

attribute [local go_sem ↓] mk25_eq cp25_eq

set_option maxHeartbeats 2000000 in
theorem itoa_walk (X : Int) (w : World) (hX : 0 < X ∧ X ≤ 18446744073709551615) :
    Calls Try.prog 39 #[.int .u64 X] w fun e w' => ∃ g : Nat, ∃ xs : List Int, e = .returned (.slice (some ⟨g, 0, none⟩) xs.length xs.length) ∧ Hid (0 < xs.length ∧ xs.length ≤ 20 ∧ IsDig xs ∧ val10 xs = X ∧ Row8 w' g 0 xs ∧ Below w.heap.size w w' ∧ w.heap.size < w'.heap.size) := by
  have hX0 : (X == 0) = false := beq_eq_false_iff_ne.2 (by omega)
  have HA := show Hid _ from arr_new w
  have HB := show Hid (Below w.heap.size w (w.alloc (.cells #[.int .u8 0, .int .u8 0, .int .u8 0, .int .u8 0, .int .u8 0, .int .u8 0, .int .u8 0, .int .u8 0, .int .u8 0, .int .u8 0, .int .u8 0, .int .u8 0, .int .u8 0, .int .u8 0, .int .u8 0, .int .u8 0, .int .u8 0, .int .u8 0, .int .u8 0, .int .u8 0] 67))) from (Below.refl _ _).alloc (Nat.le_refl _) _
  have HGs : Hid (w.heap.size < (w.alloc (.cells #[.int .u8 0, .int .u8 0, .int .u8 0, .int .u8 0, .int .u8 0, .int .u8 0, .int .u8 0, .int .u8 0, .int .u8 0, .int .u8 0, .int .u8 0, .int .u8 0, .int .u8 0, .int .u8 0, .int .u8 0, .int .u8 0, .int .u8 0, .int .u8 0, .int .u8 0, .int .u8 0] 67)).heap.size) := by simp [Hid]
  go_enter Try.func39, Try.ntmps39
  go_wp2
  generalize w.alloc (.cells #[.int .u8 0, .int .u8 0, .int .u8 0, .int .u8 0, .int .u8 0, .int .u8 0, .int .u8 0, .int .u8 0, .int .u8 0, .int .u8 0, .int .u8 0, .int .u8 0, .int .u8 0, .int .u8 0, .int .u8 0, .int .u8 0, .int .u8 0, .int .u8 0, .int .u8 0, .int .u8 0] 67) = W at *
  generalize hg : w.heap.size = g at *
  have HG : Hid (w.heap.size = g) := hg
  clear hg
  go_loopw [0, 4] (fun x i wr => ∃ (k : Nat) (Y : Int), k ≤ 20 ∧ x = .int .u64 Y ∧ (0 ≤ Y ∧ Y ≤ X) ∧ i = .int .i64 k ∧ Hid (Below g w wr ∧ g < wr.heap.size ∧ ∃ F, Arr wr g F ∧ ItoaInv X Y k F)) (fun x _ _ => (intOf x).toNat)
  case atStart => exact ⟨20, X, Nat.le_refl _, rfl, ⟨by omega, by omega⟩, rfl, HB.out, HGs.out, _, HA.out, [], rfl, (fun x hx => by simp at hx), fun j h => by omega, by simp [val10]⟩
  case round =>
    obtain ⟨k, Y, hk, rfl, hY, rfl, HI⟩ := hrel
    by_cases hY0 : 0 < Y
    · obtain ⟨hb, hsz, F, hF, hI⟩ := HI.out
      have hk1 := itoa_more hI hX.2 hY0
      obtain ⟨m, rfl⟩ : ∃ m, k = m + 1 := ⟨k - 1, by omega⟩
      have hc := hF.cell (i := m) (by omega)
      have hf := hF.fr m
      have HN : Hid _ := (show _ ∧ _ ∧ _ from ⟨hb.setCell (p := ⟨g, m, none⟩) (Nat.le_refl _) (.int .u8 (48 + Y % 10)), by simpa using hsz, upd F m (48 + Y % 10), hF.set (i := m) (by omega) _, itoa_step hI hk hY.1⟩ : (Below g w _ ∧ g < _ ∧ ∃ F, Arr _ g F ∧ ItoaInv X (Y / 10) m F))
      clear hb hF hI HI hsz
      go_wp2
      go_roundw
      case rel => exact ⟨m, _, by omega, rfl, by omega, by go_num, (show _ ∧ _ ∧ _ from ⟨HN.out.1, by simpa using HN.out.2.1, HN.out.2.2⟩)⟩
      case measure => simp [intOf]; omega
    · obtain rfl : Y = 0 := by omega
      obtain ⟨hb, hsz, F, hF, zs, h1, h2, h3, h4⟩ := HI.out
      have h4' : val10 zs = X := by omega
      have hk20 : k < 20 := by
        rcases Nat.lt_or_ge k 20 with h | h
        · exact h
        · have : zs = [] := List.eq_nil_of_length_eq_zero (by omega)
          subst this
          simp [val10] at h4'
          omega
      obtain ⟨n, hn⟩ : ∃ n, k + n = 20 := ⟨20 - k, by omega⟩
      have hzl : zs.length = n := by omega
      have hkn : (20 : Int) - (k : Int) = (n : Int) := by omega
      have hsl : ∀ wx, (Instr.sliceAt 67 (.pointer (some ⟨g, 0, none⟩)) (some (.int .i64 (k : Int))) none none).run Try.prog wx = .ok (.slice (some ⟨g, k, none⟩) n n) wx := fun wx => by
        rw [slice67 g k .i64 hk20 wx, show 20 - k = n from by omega]
      obtain ⟨W1, hmk, H1⟩ := make_full wr n (by omega)
      have hr : Row8 wr g k zs := fun i hi => by
        rw [hF.cell (by omega), h3 i (by omega)]
      obtain ⟨W2, F', hcp, H2⟩ := copy_into H1.out.2 g k n zs (hr.below H1.out.1) (by omega)
      rw [hzl] at hcp
      have HE : Hid (0 < zs.length ∧ zs.length ≤ 20 ∧ IsDig zs ∧ val10 zs = X ∧ Row8 W2 wr.heap.size 0 zs ∧ Below w.heap.size w W2 ∧ w.heap.size < W2.heap.size) := by
        refine ⟨by omega, by omega, h2, h4', H2.out.2.1.row (by omega) H2.out.2.2.1, ?_, ?_⟩
        · rw [HG.out]; exact hb.trans ((H1.out.1.mono (by omega)).trans (H2.out.1.mono (by omega)))
        · rw [HG.out]; have := H2.out.2.1.lt; omega
      have HZ : Hid (zs.length = n) := hzl
      clear hb hsz hF h1 h2 h3 h4 h4' hr H1 H2 hzl hn HI HA HB HGs hX
      generalize wr.heap.size = g2 at *
      go_wp2
      go_ret
      exact ⟨g2, zs, by rw [HZ.out]; rfl, HE.out⟩

set_option maxHeartbeats 2000000 in
theorem itoa_zero (w : World) :
    Calls Try.prog 39 #[.int .u64 0] w fun e w' => ∃ g : Nat, ∃ xs : List Int, e = .returned (.slice (some ⟨g, 0, none⟩) xs.length xs.length) ∧ Hid (0 < xs.length ∧ xs.length ≤ 20 ∧ IsDig xs ∧ val10 xs = 0 ∧ Row8 w' g 0 xs ∧ Below w.heap.size w w' ∧ w.heap.size < w'.heap.size) := by
  go_enter Try.func39, Try.ntmps39
  go_wp2
  go_ret
  refine ⟨w.heap.size, [48], rfl, by simp, by simp, fun x hx => by simp at hx; omega, rfl, fun i hi => ?_, (Below.refl _ _).alloc (Nat.le_refl _) _, by simp⟩
  obtain rfl : i = 0 := by simpa using hi
  rw [cell_of_row _ _ _ _ _ _ (heap_alloc_last w _)]
  rfl

/-- 'zzB1ItoaU(x)'. -/
theorem itoa_any (X : Int) (w : World) (hX : 0 ≤ X ∧ X ≤ 18446744073709551615) :
    Calls Try.prog 39 #[.int .u64 X] w fun e w' => ∃ g : Nat, ∃ xs : List Int, e = .returned (.slice (some ⟨g, 0, none⟩) xs.length xs.length) ∧ Hid (0 < xs.length ∧ xs.length ≤ 20 ∧ IsDig xs ∧ val10 xs = X ∧ Row8 w' g 0 xs ∧ Below w.heap.size w w' ∧ w.heap.size < w'.heap.size) := by
  rcases Int.lt_or_le 0 X with h | h
  · exact itoa_walk X w ⟨h, hX.2⟩
  · obtain rfl : X = 0 := by omega
    exact itoa_zero w

end Go.Proofs.Qxb6600033a
