/-
  THE WALKS of zzB1PadLeft, zzB1SubDigits.
-/
import Derived.Test.Qxb6600033aUpL
namespace Go.Proofs.Qxb6600033a
open Go.RowKit
set_option linter.unusedVariables false
set_option maxRecDepth 100000

/-- A row of n bytes at block g: byte i is F i. -/
def Buf (w : World) (g n : Nat) (F : Nat → Int) : Prop := ∃ A : Array Value, w.heap[g]? = some (.cells A 5 (0, 0)) ∧ A.size = n ∧ ∀ i, i < n → A[i]? = some (.int .u8 (F i))
theorem Buf.cell {w : World} {g n : Nat} {F : Nat → Int} (h : Buf w g n F) {i : Nat} (hi : i < n) : w.cell? ⟨g, i, none⟩ = some (.int .u8 (F i)) := by
  obtain ⟨A, h1, h2, h3⟩ := h
  rw [cell_of_row _ _ _ _ _ _ h1, h3 i hi]
theorem Buf.fr {w : World} {g n : Nat} {F : Nat → Int} (h : Buf w g n F) (i : Nat) : w.frozen? ⟨g, i, none⟩ = false := by
  obtain ⟨A, h1, h2, h3⟩ := h
  exact frozen_of_row _ _ _ _ _ h1
theorem Buf.set {w : World} {g n : Nat} {F : Nat → Int} (h : Buf w g n F) {i : Nat} (hi : i < n) (v : Int) : Buf (w.setCell ⟨g, i, none⟩ (.int .u8 v)) g n (upd F i v) := by
  obtain ⟨A, h1, h2, h3⟩ := h
  refine ⟨A.setIfInBounds i (.int .u8 v), heap_setCell_same _ _ _ _ _ _ h1, by simpa using h2, fun j hj => ?_⟩
  unfold upd
  by_cases e : j = i
  · subst e; rw [if_pos rfl, Array.getElem?_setIfInBounds_self_of_lt (by omega)]
  · rw [if_neg e, Array.getElem?_setIfInBounds_ne (by omega), h3 j hj]
theorem Buf.row {w : World} {g n : Nat} {F : Nat → Int} (h : Buf w g n F) {rs : List Int} (hr : rs.length ≤ n) (hf : ∀ i, i < rs.length → F i = dg rs i) : Row8 w g 0 rs := fun i hi => by
  rw [Nat.zero_add, h.cell (by omega), hf i hi]
theorem Buf.lt {w : World} {g n : Nat} {F : Nat → Int} (h : Buf w g n F) : g < w.heap.size := by
  obtain ⟨A, h1, _⟩ := h
  exact (Array.getElem?_eq_some_iff.1 h1).1
theorem Buf.drewN {w : World} {g n : Nat} {F : Nat → Int} (h : Buf w g n F) (q : Nat) : Buf (w.drewN q) g n F := h

/-- 'make([]byte, n)'. -/
theorem make_full (w : World) (n : Nat) (hn : n ≤ 65537) : ∃ W1, (mk25 (.int .i64 (n : Int)) (.int .i64 (n : Int))).run Try.prog w = .ok (.slice (some ⟨w.heap.size, 0, none⟩) n n) W1 ∧
    Hid (Below w.heap.size w W1 ∧ Buf W1 w.heap.size n (fun _ => 0)) := by
  obtain ⟨Z, h1, h2, h3⟩ := make25 w n hn
  exact ⟨_, h3 n (Nat.le_refl _), (Below.refl _ _).alloc (Nat.le_refl _) _, Z, heap_alloc_last w _, h1, h2⟩

attribute [local go_sem ↓] mk25_eq

set_option maxHeartbeats 2000000 in
theorem pad_left (b off c n : Nat) (xs : List Int) (w : World) (hr : Row8 w b off xs) (hl : xs.length ≤ n) (hn : n ≤ 65537) :
    Calls Try.prog 36 #[.slice (some ⟨b, off, none⟩) xs.length c, .int .i64 n] w fun e w' => e = .returned (.slice (some ⟨w.heap.size, 0, none⟩) n n) ∧ Hid (Row8 w' w.heap.size 0 (zeros (n - xs.length) ++ xs) ∧ Below w.heap.size w w' ∧ w.heap.size < w'.heap.size) := by
  obtain ⟨W1, hmk, HW⟩ := make_full w n hn
  have HR : Hid (Row8 w b off xs) := hr
  clear hr
  obtain ⟨k, hk⟩ : ∃ k, n = k + xs.length := ⟨n - xs.length, by omega⟩
  have hkn : ((n : Int) - (xs.length : Int)) = (k : Int) := by omega
  have HK : Hid (n = k + xs.length) := hk
  have hkln : k ≤ n := by omega
  clear hk
  generalize hg : w.heap.size = g at *
  have HG : Hid (w.heap.size = g) := hg
  clear hg
  go_enter Try.func36, Try.ntmps36
  go_wp2
  go_loopw [7] (fun i wr => ∃ j : Nat, j ≤ k ∧ i = .int .i64 j ∧ Hid (Below g w wr ∧ ∃ F, Buf wr g n F ∧ ∀ t, t < j → F t = 48)) (fun i _ => k - (intOf i).toNat)
  case atStart => exact ⟨0, Nat.zero_le _, rfl, HW.out.1, _, HW.out.2, fun t h => by omega⟩
  case round =>
    obtain ⟨j, hj, rfl, HB⟩ := hrel
    by_cases hjk : j < k
    · obtain ⟨hb, F, hF, h48⟩ := HB.out
      have hc := hF.cell (i := j) (by omega)
      have hf := hF.fr j
      have HN : Hid _ := (show _ ∧ _ from ⟨hb.setCell (p := ⟨g, j, none⟩) (Nat.le_refl _) (.int .u8 48), upd F j 48, hF.set (i := j) (by omega) 48, fun t ht => by
        unfold upd
        split
        · rfl
        · exact h48 t (by omega)⟩ : (Below g w _ ∧ ∃ F, Buf _ g n F ∧ ∀ t, t < j + 1 → F t = 48))
      clear hb hF h48 HB
      have hjn : (j : Int) < (n : Int) := by omega
      have hjk' : (j : Int) < (k : Int) := by omega
      go_wp2
      go_roundw
      case rel => exact ⟨j + 1, by omega, by go_num, HN.out⟩
      case measure => simp [intOf]; omega
    · have HB0 : Hid _ := HB
      obtain rfl : k = j := by omega
      clear HB hj hjk
      go_wp2
      go_loopw [8] (fun i wr => ∃ t : Nat, t ≤ xs.length ∧ i = .int .i64 t ∧ Hid (Below g w wr ∧ ∃ F, Buf wr g n F ∧ (∀ u, u < k → F u = 48) ∧ ∀ u, u < t → F (k + u) = dg xs u)) (fun i _ => xs.length - (intOf i).toNat)
      case atStart =>
        obtain ⟨hb, F, hF, h48⟩ := HB0.out
        exact ⟨0, Nat.zero_le _, rfl, hb, F, hF, h48, fun u h => by omega⟩
      case round =>
        obtain ⟨t, ht, rfl, HB⟩ := hrel
        by_cases htk : t < xs.length
        · obtain ⟨hb, F, hF, h48, hcp⟩ := HB.out
          have hKn := HK.out
          have hc := hF.cell (i := k + t) (by omega)
          have hf := hF.fr (k + t)
          have hsrc := HR.out t htk
          have hsrc2 := hb.cell (p := ⟨b, off + t, none⟩) (by rw [← HG.out]; exact World.block_lt_of_cell? w _ hsrc)
          rw [hsrc] at hsrc2
          obtain ⟨x, HX⟩ : ∃ x, Hid (dg xs t = x) := ⟨_, rfl⟩
          rw [HX.out] at hsrc2
          have HN : Hid _ := (show _ ∧ _ from ⟨hb.setCell (p := ⟨g, k + t, none⟩) (Nat.le_refl _) (.int .u8 x), upd F (k + t) x, hF.set (i := k + t) (by omega) x, fun u hu => by
              unfold upd
              rw [if_neg (by omega)]
              exact h48 u hu, fun u hu => by
              unfold upd
              by_cases e : u = t
              · subst e; rw [if_pos rfl, HX.out]
              · rw [if_neg (by omega)]; exact hcp u (by omega)⟩ : (Below g w _ ∧ ∃ F, Buf _ g n F ∧ (∀ u, u < k → F u = 48) ∧ ∀ u, u < t + 1 → F (k + u) = dg xs u))
          have hin : (k : Int) + (t : Int) < (n : Int) := by omega
          have hinn : k + t < n := by omega
          clear hb hF h48 hcp HB hKn hsrc
          have htk' : (t : Int) < (xs.length : Int) := by omega
          go_wp2
          go_roundw
          case rel => exact ⟨t + 1, by omega, by go_num, HN.out⟩
          case measure => simp [intOf]; omega
        · obtain rfl : t = xs.length := by omega
          clear ht htk
          go_wp2
          go_ret
          obtain ⟨hb, F, hF, h48, hcp⟩ := HB.out
          have hKn := HK.out
          refine ⟨rfl, hF.row ?_ (fun i hi => ?_), hb, hF.lt⟩
          · rw [List.length_append, zeros_length]; omega
          · rw [List.length_append, zeros_length] at hi
            by_cases e : i < k
            · rw [h48 i e, dg_append_left (by rw [zeros_length]; omega)]
              simp [dg, zeros, List.getD_eq_getElem?_getD, show i < n - xs.length from by omega]
            · rw [dg_append_right (by rw [zeros_length]; omega), zeros_length, show n - xs.length = k from by omega]
              have := hcp (i - k) (by omega)
              rwa [show k + (i - k) = i from by omega] at this

/-- Digits m.. of the difference lie in F; B is the borrow. -/
def SubInv (X Y : List Int) (n m : Nat) (B : Int) (F : Nat → Int) : Prop :=
  ∃ zs, zs.length = n - m ∧ IsDig zs ∧ (∀ t, t < n - m → F (m + t) = dg zs t) ∧ val10 zs = val10 (X.drop m) - val10 (Y.drop m) + B * 10 ^ (n - m)

theorem sub_step {X Y : List Int} {n m : Nat} {B B' x y v : Int} {F : Nat → Int} (hX : X.length = n) (hY : Y.length = n) (hm : m + 1 ≤ n) (hx : dg X m = x) (hy : dg Y m = y)
    (h : SubInv X Y n (m + 1) B F) (hv : v = x - y - B + 10 * B') (h0 : 0 ≤ v) (h9 : v ≤ 9) : SubInv X Y n m B' (upd F m (48 + v)) := by
  obtain ⟨zs, h1, h2, h3, h4⟩ := h
  have e1 : n - m = (n - (m + 1)) + 1 := by omega
  refine ⟨(48 + v) :: zs, by rw [List.length_cons, h1]; omega, fun z hz => ?_, fun t ht => ?_, ?_⟩
  · rcases List.mem_cons.1 hz with rfl | hz
    · omega
    · exact h2 z hz
  · unfold upd
    cases t with
    | zero => rw [if_pos (by omega)]; rfl
    | succ t =>
      rw [if_neg (by omega)]
      have := h3 t (by omega)
      rw [show m + 1 + t = m + (t + 1) from by omega] at this
      rw [this]
      simp [dg]
  · rw [val_cons, h1, h4, drop_dg (l := X) (i := m) (by omega), drop_dg (l := Y) (i := m) (by omega), val_cons, val_cons, List.length_drop, List.length_drop, hX, hY, hx, hy, e1, Int.pow_succ, hv]
    generalize (10 : Int) ^ (n - (m + 1)) = P
    generalize val10 (X.drop (m + 1)) = a
    generalize val10 (Y.drop (m + 1)) = b
    have e2 : B' * (P * 10) = 10 * (B' * P) := by rw [Int.mul_comm P 10, ← Int.mul_assoc, Int.mul_comm B' 10, Int.mul_assoc]
    have e3 : (48 + (x - y - B + 10 * B') - 48) = x - y - B + 10 * B' := by omega
    have e4 : (x - y - B + 10 * B') * P = x * P - y * P - B * P + 10 * (B' * P) := by rw [Int.add_mul, Int.sub_mul, Int.sub_mul, Int.mul_assoc]
    rw [e2, e3, e4, Int.sub_mul, Int.sub_mul]
    omega

theorem sub_round {W3 wr : World} {g3 : Nat} {X Y : List Int} {n m : Nat} {B B' x y v : Int} {F : Nat → Int} (hX : X.length = n) (hY : Y.length = n) (hm : m + 1 ≤ n) (hx : dg X m = x) (hy : dg Y m = y)
    (hb : Below g3 W3 wr) (hF : Buf wr g3 n F) (h : SubInv X Y n (m + 1) B F) (hv : v = x - y - B + 10 * B') (h0 : 0 ≤ v) (h9 : v ≤ 9) (q : Nat) :
    Below g3 W3 ((wr.drewN q).setCell ⟨g3, m, none⟩ (.int .u8 (48 + v))) ∧ ∃ F, Buf ((wr.drewN q).setCell ⟨g3, m, none⟩ (.int .u8 (48 + v))) g3 n F ∧ SubInv X Y n m B' F :=
  ⟨(hb.trans (below_drewN g3 q wr)).setCell (p := ⟨g3, m, none⟩) (Nat.le_refl _) _, _, (hF.drewN q).set (i := m) (by omega) (48 + v), sub_step hX hY hm hx hy h hv h0 h9⟩

/-- The difference of two digit rows. -/
def SubOut (xs ys : List Int) (n : Nat) (w : World) (e : Ending) (w' : World) : Prop :=
  ∃ g zs, ∃ bo : Bool, e = .returned (.tuple #[.slice (some ⟨g, 0, none⟩) n n, .bool bo]) ∧ zs.length = n ∧ IsDig zs ∧ Row8 w' g 0 zs ∧ Below w.heap.size w w' ∧ val10 zs = val10 xs - val10 ys + (if bo then 1 else 0) * 10 ^ n

theorem pad_length (xs : List Int) (n : Nat) (h : xs.length ≤ n) : (zeros (n - xs.length) ++ xs).length = n := by rw [List.length_append, zeros_length]; omega
theorem pad_val (xs : List Int) (n : Nat) : val10 (zeros n ++ xs) = val10 xs := by rw [val_append, val_zeros, Int.zero_mul, Int.zero_add]

set_option maxHeartbeats 4000000 in
theorem sub_le (b off c b2 off2 c2 : Nat) (xs ys : List Int) (w : World) (h1 : Row8 w b off xs) (h2 : Row8 w b2 off2 ys) (hd1 : IsDig xs) (hd2 : IsDig ys) (hle : ys.length ≤ xs.length) (hn : xs.length ≤ 65537) :
    Calls Try.prog 21 #[.slice (some ⟨b, off, none⟩) xs.length c, .slice (some ⟨b2, off2, none⟩) ys.length c2] w (SubOut xs ys xs.length w) := by
  have HR1 : Hid (Row8 w b off xs) := h1
  have HR2 : Hid (Row8 w b2 off2 ys) := h2
  have HD1 : Hid (IsDig xs) := hd1
  have HD2 : Hid (IsDig ys) := hd2
  clear h1 h2 hd1 hd2
  have hle' : decide ((xs.length : Int) < (ys.length : Int)) = false := decide_eq_false (by omega)
  go_enter Try.func21, Try.ntmps21
  go_wp2_with fail
  refine (pad_left b off c xs.length xs w HR1.out (by omega) (by omega)).mono ?_
  rintro e w1 ⟨rfl, HP1⟩
  go_wp2_with fail
  refine (pad_left b2 off2 c2 xs.length ys w1 (HR2.out.below HP1.out.2.1) (by omega) (by omega)).mono ?_
  rintro e w2 ⟨rfl, HP2⟩
  obtain ⟨W3, hmk, HW⟩ := make_full w2 xs.length (by omega)
  obtain ⟨X, HX⟩ : ∃ X, Hid (X = zeros (xs.length - xs.length) ++ xs) := ⟨_, rfl⟩
  obtain ⟨Y, HY⟩ : ∃ Y, Hid (Y = zeros (xs.length - ys.length) ++ ys) := ⟨_, rfl⟩
  have HXL : Hid (X.length = xs.length ∧ IsDig X) := by rw [HX.out]; exact ⟨pad_length xs _ (by omega), dig_append (zeros_dig _) HD1.out⟩
  have HYL : Hid (Y.length = xs.length ∧ IsDig Y) := by rw [HY.out]; exact ⟨pad_length ys _ (by omega), dig_append (zeros_dig _) HD2.out⟩
  have HG : Hid (w.heap.size < w2.heap.size ∧ w1.heap.size < w2.heap.size ∧ Below w.heap.size w W3 ∧ Row8 W3 w.heap.size 0 X ∧ Row8 W3 w1.heap.size 0 Y ∧ Buf W3 w2.heap.size xs.length (fun _ => 0)) := by
    have a1 := HP1.out.2.2
    have a2 := HP2.out.2.1.size
    have a3 := HP2.out.2.2
    refine ⟨by omega, a3, (HP1.out.2.1.trans (HP2.out.2.1.mono (by omega))).trans (HW.out.1.mono (by omega)), ?_, ?_, HW.out.2⟩
    · rw [HX.out]; exact (HP1.out.1.below HP2.out.2.1).below HW.out.1
    · rw [HY.out]; exact HP2.out.1.below HW.out.1
  generalize hg1 : w.heap.size = g1 at *
  generalize hg2 : w1.heap.size = g2 at *
  generalize hg3 : w2.heap.size = g3 at *
  have HG1 : Hid _ := hg1
  clear hg1 hg2 hg3 HP1 HP2 HW HR1 HR2
  go_wp2
  go_loopw [10, 11] (fun bo i wr => ∃ (m : Nat) (B : Int), m ≤ xs.length ∧ i = .int .i64 ((m : Int) - 1) ∧ bo = .int .i64 B ∧ (0 ≤ B ∧ B ≤ 1) ∧ Hid (Below g3 W3 wr ∧ ∃ F, Buf wr g3 xs.length F ∧ SubInv X Y xs.length m B F)) (fun _ i _ => (intOf i + 1).toNat)
  case atStart =>
    refine ⟨xs.length, 0, Nat.le_refl _, rfl, rfl, by omega, Below.refl _ _, _, HG.out.2.2.2.2.2, [], by simp, (fun x hx => by simp at hx), fun t h => by omega, ?_⟩
    have := HXL.out.1
    have := HYL.out.1
    rw [List.drop_eq_nil_of_le (by omega), List.drop_eq_nil_of_le (by omega)]
    simp [val10]
  case round =>
    obtain ⟨m, B, hm, rfl, rfl, hB, HB⟩ := hrel
    by_cases hm0 : m = 0
    · subst hm0
      have hneg : ((((0 : Nat) : Int) - 1) : Int) = -1 := by omega
      rw [hneg]
      clear hneg
      by_cases hB0 : B = 0
      · subst hB0
        go_wp2
        refine bodyPost_ret (results_tmp2 Try.results21 _ _ _) rfl ?_
        obtain ⟨hb, F, hF, zs, z1, z2, z3, z4⟩ := HB.out
        refine ⟨g3, zs, false, rfl, by omega, z2, hF.row (by omega) (fun i hi => ?_), ?_, ?_⟩
        · have := z3 i (by omega); rwa [Nat.zero_add] at this
        · rw [HG1.out]; exact HG.out.2.2.1.trans (hb.mono (by have := HG.out.1; omega))
        · rw [List.drop_zero, List.drop_zero, HX.out, HY.out, pad_val, pad_val] at z4
          rw [z4]; simp
      · obtain rfl : B = 1 := by omega
        go_wp2
        refine bodyPost_ret (results_tmp2 Try.results21 _ _ _) rfl ?_
        obtain ⟨hb, F, hF, zs, z1, z2, z3, z4⟩ := HB.out
        refine ⟨g3, zs, true, rfl, by omega, z2, hF.row (by omega) (fun i hi => ?_), ?_, ?_⟩
        · have := z3 i (by omega); rwa [Nat.zero_add] at this
        · rw [HG1.out]; exact HG.out.2.2.1.trans (hb.mono (by have := HG.out.1; omega))
        · rw [List.drop_zero, List.drop_zero, HX.out, HY.out, pad_val, pad_val] at z4
          rw [z4]; simp
    · obtain ⟨m, rfl⟩ : ∃ i, m = i + 1 := ⟨m - 1, by omega⟩
      have em : (((m + 1 : Nat) : Int) - 1) = (m : Int) := by omega
      rw [em]
      clear em hm0
      obtain ⟨hb, F, hF, hI⟩ := HB.out
      obtain ⟨x, HXx, hxd, hx⟩ : ∃ x, Hid (dg X m = x) ∧ (48 ≤ x ∧ x ≤ 57) ∧ W3.cell? ⟨g1, m, none⟩ = some (.int .u8 x) := ⟨_, rfl, dg_dig HXL.out.2 (by rw [HXL.out.1]; omega), by have := HG.out.2.2.2.1 m (by rw [HXL.out.1]; omega); rwa [Nat.zero_add] at this⟩
      obtain ⟨y, HYy, hyd, hy⟩ : ∃ y, Hid (dg Y m = y) ∧ (48 ≤ y ∧ y ≤ 57) ∧ W3.cell? ⟨g2, m, none⟩ = some (.int .u8 y) := ⟨_, rfl, dg_dig HYL.out.2 (by rw [HYL.out.1]; omega), by have := HG.out.2.2.2.2.1 m (by rw [HYL.out.1]; omega); rwa [Nat.zero_add] at this⟩
      rw [← hb.cell (p := ⟨g1, m, none⟩) HG.out.1] at hx
      rw [← hb.cell (p := ⟨g2, m, none⟩) HG.out.2.1] at hy
      have hc := hF.cell (i := m) (by omega)
      have hf := hF.fr m
      have hmn : (m : Int) < (xs.length : Int) := by omega
      have hmnn : m < xs.length := by omega
      by_cases hv : x - 48 - (y - 48) - B < 0
      · have HN : Hid _ := fun q => sub_round (v := x - 48 - (y - 48) - B + 10) (B' := 1) HXL.out.1 HYL.out.1 hm HXx.out HYy.out hb hF hI (by omega) (by omega) (by omega) q
        clear hb hF hI HB
        go_wp2
        go_quiet (fail)
        go_wp2
        go_roundw
        case rel => exact ⟨m, 1, by omega, by go_num, rfl, by omega, HN.out _⟩
        case measure => simp [intOf]
      · have HN : Hid _ := fun q => sub_round (v := x - 48 - (y - 48) - B) (B' := 0) HXL.out.1 HYL.out.1 hm HXx.out HYy.out hb hF hI (by omega) (by omega) (by omega) q
        clear hb hF hI HB
        go_wp2
        go_quiet (fail)
        go_wp2
        go_roundw
        case rel => exact ⟨m, 0, by omega, by go_num, rfl, by omega, HN.out _⟩
        case measure => simp [intOf]

set_option maxHeartbeats 4000000 in
theorem sub_gt (b off c b2 off2 c2 : Nat) (xs ys : List Int) (w : World) (h1 : Row8 w b off xs) (h2 : Row8 w b2 off2 ys) (hd1 : IsDig xs) (hd2 : IsDig ys) (hle : xs.length < ys.length) (hn : ys.length ≤ 65537) :
    Calls Try.prog 21 #[.slice (some ⟨b, off, none⟩) xs.length c, .slice (some ⟨b2, off2, none⟩) ys.length c2] w (SubOut xs ys ys.length w) := by
  have HR1 : Hid (Row8 w b off xs) := h1
  have HR2 : Hid (Row8 w b2 off2 ys) := h2
  have HD1 : Hid (IsDig xs) := hd1
  have HD2 : Hid (IsDig ys) := hd2
  clear h1 h2 hd1 hd2
  have hle' : (xs.length : Int) < (ys.length : Int) := by omega
  go_enter Try.func21, Try.ntmps21
  go_wp2_with fail
  refine (pad_left b off c ys.length xs w HR1.out (by omega) (by omega)).mono ?_
  rintro e w1 ⟨rfl, HP1⟩
  go_wp2_with fail
  refine (pad_left b2 off2 c2 ys.length ys w1 (HR2.out.below HP1.out.2.1) (by omega) (by omega)).mono ?_
  rintro e w2 ⟨rfl, HP2⟩
  obtain ⟨W3, hmk, HW⟩ := make_full w2 ys.length (by omega)
  obtain ⟨X, HX⟩ : ∃ X, Hid (X = zeros (ys.length - xs.length) ++ xs) := ⟨_, rfl⟩
  obtain ⟨Y, HY⟩ : ∃ Y, Hid (Y = zeros (ys.length - ys.length) ++ ys) := ⟨_, rfl⟩
  have HXL : Hid (X.length = ys.length ∧ IsDig X) := by rw [HX.out]; exact ⟨pad_length xs _ (by omega), dig_append (zeros_dig _) HD1.out⟩
  have HYL : Hid (Y.length = ys.length ∧ IsDig Y) := by rw [HY.out]; exact ⟨pad_length ys _ (by omega), dig_append (zeros_dig _) HD2.out⟩
  have HG : Hid (w.heap.size < w2.heap.size ∧ w1.heap.size < w2.heap.size ∧ Below w.heap.size w W3 ∧ Row8 W3 w.heap.size 0 X ∧ Row8 W3 w1.heap.size 0 Y ∧ Buf W3 w2.heap.size ys.length (fun _ => 0)) := by
    have a1 := HP1.out.2.2
    have a2 := HP2.out.2.1.size
    have a3 := HP2.out.2.2
    refine ⟨by omega, a3, (HP1.out.2.1.trans (HP2.out.2.1.mono (by omega))).trans (HW.out.1.mono (by omega)), ?_, ?_, HW.out.2⟩
    · rw [HX.out]; exact (HP1.out.1.below HP2.out.2.1).below HW.out.1
    · rw [HY.out]; exact HP2.out.1.below HW.out.1
  generalize hg1 : w.heap.size = g1 at *
  generalize hg2 : w1.heap.size = g2 at *
  generalize hg3 : w2.heap.size = g3 at *
  have HG1 : Hid _ := hg1
  clear hg1 hg2 hg3 HP1 HP2 HW HR1 HR2
  go_wp2
  go_loopw [10, 11] (fun bo i wr => ∃ (m : Nat) (B : Int), m ≤ ys.length ∧ i = .int .i64 ((m : Int) - 1) ∧ bo = .int .i64 B ∧ (0 ≤ B ∧ B ≤ 1) ∧ Hid (Below g3 W3 wr ∧ ∃ F, Buf wr g3 ys.length F ∧ SubInv X Y ys.length m B F)) (fun _ i _ => (intOf i + 1).toNat)
  case atStart =>
    refine ⟨ys.length, 0, Nat.le_refl _, rfl, rfl, by omega, Below.refl _ _, _, HG.out.2.2.2.2.2, [], by simp, (fun x hx => by simp at hx), fun t h => by omega, ?_⟩
    have := HXL.out.1
    have := HYL.out.1
    rw [List.drop_eq_nil_of_le (by omega), List.drop_eq_nil_of_le (by omega)]
    simp [val10]
  case round =>
    obtain ⟨m, B, hm, rfl, rfl, hB, HB⟩ := hrel
    by_cases hm0 : m = 0
    · subst hm0
      have hneg : ((((0 : Nat) : Int) - 1) : Int) = -1 := by omega
      rw [hneg]
      clear hneg
      by_cases hB0 : B = 0
      · subst hB0
        go_wp2
        refine bodyPost_ret (results_tmp2 Try.results21 _ _ _) rfl ?_
        obtain ⟨hb, F, hF, zs, z1, z2, z3, z4⟩ := HB.out
        refine ⟨g3, zs, false, rfl, by omega, z2, hF.row (by omega) (fun i hi => ?_), ?_, ?_⟩
        · have := z3 i (by omega); rwa [Nat.zero_add] at this
        · rw [HG1.out]; exact HG.out.2.2.1.trans (hb.mono (by have := HG.out.1; omega))
        · rw [List.drop_zero, List.drop_zero, HX.out, HY.out, pad_val, pad_val] at z4
          rw [z4]; simp
      · obtain rfl : B = 1 := by omega
        go_wp2
        refine bodyPost_ret (results_tmp2 Try.results21 _ _ _) rfl ?_
        obtain ⟨hb, F, hF, zs, z1, z2, z3, z4⟩ := HB.out
        refine ⟨g3, zs, true, rfl, by omega, z2, hF.row (by omega) (fun i hi => ?_), ?_, ?_⟩
        · have := z3 i (by omega); rwa [Nat.zero_add] at this
        · rw [HG1.out]; exact HG.out.2.2.1.trans (hb.mono (by have := HG.out.1; omega))
        · rw [List.drop_zero, List.drop_zero, HX.out, HY.out, pad_val, pad_val] at z4
          rw [z4]; simp
    · obtain ⟨m, rfl⟩ : ∃ i, m = i + 1 := ⟨m - 1, by omega⟩
      have em : (((m + 1 : Nat) : Int) - 1) = (m : Int) := by omega
      rw [em]
      clear em hm0
      obtain ⟨hb, F, hF, hI⟩ := HB.out
      obtain ⟨x, HXx, hxd, hx⟩ : ∃ x, Hid (dg X m = x) ∧ (48 ≤ x ∧ x ≤ 57) ∧ W3.cell? ⟨g1, m, none⟩ = some (.int .u8 x) := ⟨_, rfl, dg_dig HXL.out.2 (by rw [HXL.out.1]; omega), by have := HG.out.2.2.2.1 m (by rw [HXL.out.1]; omega); rwa [Nat.zero_add] at this⟩
      obtain ⟨y, HYy, hyd, hy⟩ : ∃ y, Hid (dg Y m = y) ∧ (48 ≤ y ∧ y ≤ 57) ∧ W3.cell? ⟨g2, m, none⟩ = some (.int .u8 y) := ⟨_, rfl, dg_dig HYL.out.2 (by rw [HYL.out.1]; omega), by have := HG.out.2.2.2.2.1 m (by rw [HYL.out.1]; omega); rwa [Nat.zero_add] at this⟩
      rw [← hb.cell (p := ⟨g1, m, none⟩) HG.out.1] at hx
      rw [← hb.cell (p := ⟨g2, m, none⟩) HG.out.2.1] at hy
      have hc := hF.cell (i := m) (by omega)
      have hf := hF.fr m
      have hmn : (m : Int) < (ys.length : Int) := by omega
      have hmnn : m < ys.length := by omega
      by_cases hv : x - 48 - (y - 48) - B < 0
      · have HN : Hid _ := fun q => sub_round (v := x - 48 - (y - 48) - B + 10) (B' := 1) HXL.out.1 HYL.out.1 hm HXx.out HYy.out hb hF hI (by omega) (by omega) (by omega) q
        clear hb hF hI HB
        go_wp2
        go_quiet (fail)
        go_wp2
        go_roundw
        case rel => exact ⟨m, 1, by omega, by go_num, rfl, by omega, HN.out _⟩
        case measure => simp [intOf]
      · have HN : Hid _ := fun q => sub_round (v := x - 48 - (y - 48) - B) (B' := 0) HXL.out.1 HYL.out.1 hm HXx.out HYy.out hb hF hI (by omega) (by omega) (by omega) q
        clear hb hF hI HB
        go_wp2
        go_quiet (fail)
        go_wp2
        go_roundw
        case rel => exact ⟨m, 0, by omega, by go_num, rfl, by omega, HN.out _⟩
        case measure => simp [intOf]

end Go.Proofs.Qxb6600033a
