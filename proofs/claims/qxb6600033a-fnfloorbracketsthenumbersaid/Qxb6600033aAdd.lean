/-
  THE WALK of zzB1AddDigits.
-/
import Derived.Test.Qxb6600033aSub
namespace Go.Proofs.Qxb6600033a
open Go.RowKit
set_option linter.unusedVariables false
set_option maxRecDepth 100000

/-- Digits m.. of the sum lie in F behind place m; C is the carry. -/
def AddInv (X Y : List Int) (n m : Nat) (C : Int) (F : Nat → Int) : Prop :=
  ∃ zs, zs.length = n - m ∧ IsDig zs ∧ (∀ t, t < n - m → F (m + 1 + t) = dg zs t) ∧ val10 zs + C * 10 ^ (n - m) = val10 (X.drop m) + val10 (Y.drop m)

theorem add_step {X Y : List Int} {n m : Nat} {C C' x y v : Int} {F : Nat → Int} (hX : X.length = n) (hY : Y.length = n) (hm : m + 1 ≤ n) (hx : dg X m = x) (hy : dg Y m = y)
    (h : AddInv X Y n (m + 1) C F) (hv : v = (x - 48) + (y - 48) + C - 10 * C') (h0 : 0 ≤ v) (h9 : v ≤ 9) : AddInv X Y n m C' (upd F (m + 1) (48 + v)) := by
  obtain ⟨zs, h1, h2, h3, h4⟩ := h
  have e1 : n - m = (n - (m + 1)) + 1 := by omega
  refine ⟨(48 + v) :: zs, by rw [List.length_cons, h1]; omega, fun z hz => ?_, fun t ht => ?_, ?_⟩
  · rcases List.mem_cons.1 hz with rfl | hz
    · omega
    · exact h2 z hz
  · unfold upd
    cases t with
    | zero => rw [if_pos (by omega)]; rfl
    | succ t =>
      rw [if_neg (by omega)]
      have := h3 t (by omega)
      rw [show m + 1 + 1 + t = m + 1 + (t + 1) from by omega] at this
      rw [this]
      simp [dg]
  · rw [val_cons, h1, drop_dg (l := X) (i := m) (by omega), drop_dg (l := Y) (i := m) (by omega), val_cons, val_cons, List.length_drop, List.length_drop, hX, hY, hx, hy, e1, Int.pow_succ, hv]
    generalize (10 : Int) ^ (n - (m + 1)) = P at *
    generalize val10 (X.drop (m + 1)) = a at *
    generalize val10 (Y.drop (m + 1)) = b at *
    have e2 : C' * (P * 10) = 10 * (C' * P) := by rw [Int.mul_comm P 10, ← Int.mul_assoc, Int.mul_comm C' 10, Int.mul_assoc]
    have e3 : (48 + ((x - 48) + (y - 48) + C - 10 * C') - 48) = (x - 48) + (y - 48) + C - 10 * C' := by omega
    have e4 : ((x - 48) + (y - 48) + C - 10 * C') * P = (x - 48) * P + (y - 48) * P + C * P - 10 * (C' * P) := by rw [Int.sub_mul, Int.add_mul, Int.add_mul, Int.mul_assoc]
    rw [e2, e3, e4]
    omega

theorem add_round {W3 wr : World} {g3 : Nat} {X Y : List Int} {n m : Nat} {C C' x y v : Int} {F : Nat → Int} (hX : X.length = n) (hY : Y.length = n) (hm : m + 1 ≤ n) (hx : dg X m = x) (hy : dg Y m = y)
    (hb : Below g3 W3 wr) (hF : Buf wr g3 (n + 1) F) (h : AddInv X Y n (m + 1) C F) (hv : v = (x - 48) + (y - 48) + C - 10 * C') (h0 : 0 ≤ v) (h9 : v ≤ 9) (q : Nat) :
    Below g3 W3 ((wr.drewN q).setCell ⟨g3, m + 1, none⟩ (.int .u8 (48 + v))) ∧ ∃ F, Buf ((wr.drewN q).setCell ⟨g3, m + 1, none⟩ (.int .u8 (48 + v))) g3 (n + 1) F ∧ AddInv X Y n m C' F :=
  ⟨(hb.trans (below_drewN g3 q wr)).setCell (p := ⟨g3, m + 1, none⟩) (Nat.le_refl _) _, _, (hF.drewN q).set (i := m + 1) (by omega) (48 + v), add_step hX hY hm hx hy h hv h0 h9⟩

/-- The sum of two digit rows. -/
def AddOut (xs ys : List Int) (n : Nat) (w : World) (e : Ending) (w' : World) : Prop :=
  ∃ g zs, e = .returned (.slice (some ⟨g, 0, none⟩) (n + 1) (n + 1)) ∧ zs.length = n + 1 ∧ IsDig zs ∧ Row8 w' g 0 zs ∧ Below w.heap.size w w' ∧ val10 zs = val10 xs + val10 ys

theorem add_end {W3 wr : World} {g3 : Nat} {X Y : List Int} {n : Nat} {C : Int} {F : Nat → Int} (hC : 0 ≤ C ∧ C ≤ 1) (hb : Below g3 W3 wr) (hF : Buf wr g3 (n + 1) F) (h : AddInv X Y n 0 C F) :
    ∃ zs : List Int, zs.length = n + 1 ∧ IsDig zs ∧ Row8 (wr.setCell ⟨g3, 0, none⟩ (.int .u8 (48 + C))) g3 0 zs ∧ Below g3 W3 (wr.setCell ⟨g3, 0, none⟩ (.int .u8 (48 + C))) ∧ val10 zs = val10 X + val10 Y := by
  obtain ⟨zs, h1, h2, h3, h4⟩ := h
  refine ⟨(48 + C) :: zs, by rw [List.length_cons]; omega, fun z hz => ?_, (hF.set (i := 0) (by omega) (48 + C)).row (by rw [List.length_cons]; omega) (fun i hi => ?_), hb.setCell (p := ⟨g3, 0, none⟩) (Nat.le_refl _) _, ?_⟩
  · rcases List.mem_cons.1 hz with rfl | hz
    · omega
    · exact h2 z hz
  · rw [List.length_cons] at hi
    unfold upd
    cases i with
    | zero => rw [if_pos rfl]; rfl
    | succ i =>
      rw [if_neg (by omega)]
      have := h3 i (by omega)
      rw [show 0 + 1 + i = i + 1 from by omega] at this
      rw [this]
      simp [dg]
  · rw [List.drop_zero, List.drop_zero, Nat.sub_zero] at h4
    rw [val_cons, h1, Nat.sub_zero, ← h4, show 48 + C - 48 = C from by omega]
    omega

attribute [local go_sem ↓] mk25_eq

set_option maxHeartbeats 4000000 in
theorem add_le (b off c b2 off2 c2 : Nat) (xs ys : List Int) (w : World) (h1 : Row8 w b off xs) (h2 : Row8 w b2 off2 ys) (hd1 : IsDig xs) (hd2 : IsDig ys) (hle : ys.length ≤ xs.length) (hn : xs.length ≤ 65536) :
    Calls Try.prog 40 #[.slice (some ⟨b, off, none⟩) xs.length c, .slice (some ⟨b2, off2, none⟩) ys.length c2] w (AddOut xs ys xs.length w) := by
  have HR1 : Hid (Row8 w b off xs) := h1
  have HR2 : Hid (Row8 w b2 off2 ys) := h2
  have HD1 : Hid (IsDig xs) := hd1
  have HD2 : Hid (IsDig ys) := hd2
  clear h1 h2 hd1 hd2
  have hle' : decide ((xs.length : Int) < (ys.length : Int)) = false := decide_eq_false (by omega)
  go_enter Try.func40, Try.ntmps40
  go_wp2_with fail
  refine (pad_left b off c xs.length xs w HR1.out (by omega) (by omega)).mono ?_
  rintro e w1 ⟨rfl, HP1⟩
  go_wp2_with fail
  refine (pad_left b2 off2 c2 xs.length ys w1 (HR2.out.below HP1.out.2.1) (by omega) (by omega)).mono ?_
  rintro e w2 ⟨rfl, HP2⟩
  obtain ⟨W3, hmk, HW⟩ := make_full w2 (xs.length + 1) (by omega)
  rw [show (((xs.length + 1 : Nat)) : Int) = (xs.length : Int) + 1 from by omega] at hmk
  obtain ⟨X, HX⟩ : ∃ X, Hid (X = zeros (xs.length - xs.length) ++ xs) := ⟨_, rfl⟩
  obtain ⟨Y, HY⟩ : ∃ Y, Hid (Y = zeros (xs.length - ys.length) ++ ys) := ⟨_, rfl⟩
  have HXL : Hid (X.length = xs.length ∧ IsDig X) := by rw [HX.out]; exact ⟨pad_length xs _ (by omega), dig_append (zeros_dig _) HD1.out⟩
  have HYL : Hid (Y.length = xs.length ∧ IsDig Y) := by rw [HY.out]; exact ⟨pad_length ys _ (by omega), dig_append (zeros_dig _) HD2.out⟩
  have HG : Hid (w.heap.size < w2.heap.size ∧ w1.heap.size < w2.heap.size ∧ Below w.heap.size w W3 ∧ Row8 W3 w.heap.size 0 X ∧ Row8 W3 w1.heap.size 0 Y ∧ Buf W3 w2.heap.size (xs.length + 1) (fun _ => 0)) := by
    have a1 := HP1.out.2.2
    have a2 := HP2.out.2.1.size
    have a3 := HP2.out.2.2
    refine ⟨by omega, a3, (HP1.out.2.1.trans (HP2.out.2.1.mono (by omega))).trans (HW.out.1.mono (by omega)), ?_, ?_, HW.out.2⟩
    · rw [HX.out]; exact (HP1.out.1.below HP2.out.2.1).below HW.out.1
    · rw [HY.out]; exact HP2.out.1.below HW.out.1
  generalize hg1 : w.heap.size = g1 at *
  generalize hg2 : w1.heap.size = g2 at *
  generalize hg3 : w2.heap.size = g3 at *
  have HG1 : Hid _ := hg1
  clear hg1 hg2 hg3 HP1 HP2 HW HR1 HR2
  go_wp2
  go_loopw [9, 10] (fun bo i wr => ∃ (m : Nat) (B : Int), m ≤ xs.length ∧ i = .int .i64 ((m : Int) - 1) ∧ bo = .int .i64 B ∧ (0 ≤ B ∧ B ≤ 1) ∧ Hid (Below g3 W3 wr ∧ ∃ F, Buf wr g3 (xs.length + 1) F ∧ AddInv X Y xs.length m B F)) (fun _ i _ => (intOf i + 1).toNat)
  case atStart =>
    refine ⟨xs.length, 0, Nat.le_refl _, rfl, rfl, by omega, Below.refl _ _, _, HG.out.2.2.2.2.2, [], by simp, (fun x hx => by simp at hx), fun t h => by omega, ?_⟩
    have := HXL.out.1
    have := HYL.out.1
    rw [List.drop_eq_nil_of_le (by omega), List.drop_eq_nil_of_le (by omega)]
    simp [val10]
  case round =>
    obtain ⟨m, B, hm, rfl, rfl, hB, HB⟩ := hrel
    by_cases hm0 : m = 0
    · subst hm0
      have hneg : ((((0 : Nat) : Int) - 1) : Int) = -1 := by omega
      rw [hneg]
      clear hneg
      obtain ⟨hb, F, hF, hI⟩ := HB.out
      have hc := hF.cell (i := 0) (by omega)
      have hf := hF.fr 0
      have HE := show Hid _ from add_end hB hb hF hI
      clear hb hF hI HB
      go_wp2
      go_ret
      obtain ⟨zs, z1, z2, z3, z4, z5⟩ := HE.out
      refine ⟨g3, zs, rfl, z1, z2, z3, ?_, ?_⟩
      · rw [HG1.out]; exact HG.out.2.2.1.trans (z4.mono (by have := HG.out.1; omega))
      · rw [z5, HX.out, HY.out, pad_val, pad_val]
    · obtain ⟨m, rfl⟩ : ∃ i, m = i + 1 := ⟨m - 1, by omega⟩
      have em : (((m + 1 : Nat) : Int) - 1) = (m : Int) := by omega
      rw [em]
      clear em hm0
      obtain ⟨hb, F, hF, hI⟩ := HB.out
      obtain ⟨x, HXx, hxd, hx⟩ : ∃ x, Hid (dg X m = x) ∧ (48 ≤ x ∧ x ≤ 57) ∧ W3.cell? ⟨g1, m, none⟩ = some (.int .u8 x) := ⟨_, rfl, dg_dig HXL.out.2 (by rw [HXL.out.1]; omega), by have := HG.out.2.2.2.1 m (by rw [HXL.out.1]; omega); rwa [Nat.zero_add] at this⟩
      obtain ⟨y, HYy, hyd, hy⟩ : ∃ y, Hid (dg Y m = y) ∧ (48 ≤ y ∧ y ≤ 57) ∧ W3.cell? ⟨g2, m, none⟩ = some (.int .u8 y) := ⟨_, rfl, dg_dig HYL.out.2 (by rw [HYL.out.1]; omega), by have := HG.out.2.2.2.2.1 m (by rw [HYL.out.1]; omega); rwa [Nat.zero_add] at this⟩
      rw [← hb.cell (p := ⟨g1, m, none⟩) HG.out.1] at hx
      rw [← hb.cell (p := ⟨g2, m, none⟩) HG.out.2.1] at hy
      have hc := hF.cell (i := m + 1) (by omega)
      have hf := hF.fr (m + 1)
      have hmn : (m : Int) < (xs.length : Int) := by omega
      have hmnn : m < xs.length := by omega
      by_cases hv : 10 ≤ (x - 48) + (y - 48) + B
      · have HN : Hid _ := fun q => add_round (v := (x - 48) + (y - 48) + B - 10) (C' := 1) HXL.out.1 HYL.out.1 hm HXx.out HYy.out hb hF hI (by omega) (by omega) (by omega) q
        clear hb hF hI HB
        go_wp2
        go_quiet (fail)
        go_wp2
        go_roundw
        case rel => exact ⟨m, 1, by omega, by go_num, rfl, by omega, HN.out _⟩
        case measure => simp [intOf]
      · have HN : Hid _ := fun q => add_round (v := (x - 48) + (y - 48) + B) (C' := 0) HXL.out.1 HYL.out.1 hm HXx.out HYy.out hb hF hI (by omega) (by omega) (by omega) q
        clear hb hF hI HB
        go_wp2
        go_quiet (fail)
        go_wp2
        go_roundw
        case rel => exact ⟨m, 0, by omega, by go_num, rfl, by omega, HN.out _⟩
        case measure => simp [intOf]

set_option maxHeartbeats 4000000 in
theorem add_gt (b off c b2 off2 c2 : Nat) (xs ys : List Int) (w : World) (h1 : Row8 w b off xs) (h2 : Row8 w b2 off2 ys) (hd1 : IsDig xs) (hd2 : IsDig ys) (hle : xs.length < ys.length) (hn : ys.length ≤ 65536) :
    Calls Try.prog 40 #[.slice (some ⟨b, off, none⟩) xs.length c, .slice (some ⟨b2, off2, none⟩) ys.length c2] w (AddOut xs ys ys.length w) := by
  have HR1 : Hid (Row8 w b off xs) := h1
  have HR2 : Hid (Row8 w b2 off2 ys) := h2
  have HD1 : Hid (IsDig xs) := hd1
  have HD2 : Hid (IsDig ys) := hd2
  clear h1 h2 hd1 hd2
  have hle' : (xs.length : Int) < (ys.length : Int) := by omega
  go_enter Try.func40, Try.ntmps40
  go_wp2_with fail
  refine (pad_left b off c ys.length xs w HR1.out (by omega) (by omega)).mono ?_
  rintro e w1 ⟨rfl, HP1⟩
  go_wp2_with fail
  refine (pad_left b2 off2 c2 ys.length ys w1 (HR2.out.below HP1.out.2.1) (by omega) (by omega)).mono ?_
  rintro e w2 ⟨rfl, HP2⟩
  obtain ⟨W3, hmk, HW⟩ := make_full w2 (ys.length + 1) (by omega)
  rw [show (((ys.length + 1 : Nat)) : Int) = (ys.length : Int) + 1 from by omega] at hmk
  obtain ⟨X, HX⟩ : ∃ X, Hid (X = zeros (ys.length - xs.length) ++ xs) := ⟨_, rfl⟩
  obtain ⟨Y, HY⟩ : ∃ Y, Hid (Y = zeros (ys.length - ys.length) ++ ys) := ⟨_, rfl⟩
  have HXL : Hid (X.length = ys.length ∧ IsDig X) := by rw [HX.out]; exact ⟨pad_length xs _ (by omega), dig_append (zeros_dig _) HD1.out⟩
  have HYL : Hid (Y.length = ys.length ∧ IsDig Y) := by rw [HY.out]; exact ⟨pad_length ys _ (by omega), dig_append (zeros_dig _) HD2.out⟩
  have HG : Hid (w.heap.size < w2.heap.size ∧ w1.heap.size < w2.heap.size ∧ Below w.heap.size w W3 ∧ Row8 W3 w.heap.size 0 X ∧ Row8 W3 w1.heap.size 0 Y ∧ Buf W3 w2.heap.size (ys.length + 1) (fun _ => 0)) := by
    have a1 := HP1.out.2.2
    have a2 := HP2.out.2.1.size
    have a3 := HP2.out.2.2
    refine ⟨by omega, a3, (HP1.out.2.1.trans (HP2.out.2.1.mono (by omega))).trans (HW.out.1.mono (by omega)), ?_, ?_, HW.out.2⟩
    · rw [HX.out]; exact (HP1.out.1.below HP2.out.2.1).below HW.out.1
    · rw [HY.out]; exact HP2.out.1.below HW.out.1
  generalize hg1 : w.heap.size = g1 at *
  generalize hg2 : w1.heap.size = g2 at *
  generalize hg3 : w2.heap.size = g3 at *
  have HG1 : Hid _ := hg1
  clear hg1 hg2 hg3 HP1 HP2 HW HR1 HR2
  go_wp2
  go_loopw [9, 10] (fun bo i wr => ∃ (m : Nat) (B : Int), m ≤ ys.length ∧ i = .int .i64 ((m : Int) - 1) ∧ bo = .int .i64 B ∧ (0 ≤ B ∧ B ≤ 1) ∧ Hid (Below g3 W3 wr ∧ ∃ F, Buf wr g3 (ys.length + 1) F ∧ AddInv X Y ys.length m B F)) (fun _ i _ => (intOf i + 1).toNat)
  case atStart =>
    refine ⟨ys.length, 0, Nat.le_refl _, rfl, rfl, by omega, Below.refl _ _, _, HG.out.2.2.2.2.2, [], by simp, (fun x hx => by simp at hx), fun t h => by omega, ?_⟩
    have := HXL.out.1
    have := HYL.out.1
    rw [List.drop_eq_nil_of_le (by omega), List.drop_eq_nil_of_le (by omega)]
    simp [val10]
  case round =>
    obtain ⟨m, B, hm, rfl, rfl, hB, HB⟩ := hrel
    by_cases hm0 : m = 0
    · subst hm0
      have hneg : ((((0 : Nat) : Int) - 1) : Int) = -1 := by omega
      rw [hneg]
      clear hneg
      obtain ⟨hb, F, hF, hI⟩ := HB.out
      have hc := hF.cell (i := 0) (by omega)
      have hf := hF.fr 0
      have HE := show Hid _ from add_end hB hb hF hI
      clear hb hF hI HB
      go_wp2
      go_ret
      obtain ⟨zs, z1, z2, z3, z4, z5⟩ := HE.out
      refine ⟨g3, zs, rfl, z1, z2, z3, ?_, ?_⟩
      · rw [HG1.out]; exact HG.out.2.2.1.trans (z4.mono (by have := HG.out.1; omega))
      · rw [z5, HX.out, HY.out, pad_val, pad_val]
    · obtain ⟨m, rfl⟩ : ∃ i, m = i + 1 := ⟨m - 1, by omega⟩
      have em : (((m + 1 : Nat) : Int) - 1) = (m : Int) := by omega
      rw [em]
      clear em hm0
      obtain ⟨hb, F, hF, hI⟩ := HB.out
      obtain ⟨x, HXx, hxd, hx⟩ : ∃ x, Hid (dg X m = x) ∧ (48 ≤ x ∧ x ≤ 57) ∧ W3.cell? ⟨g1, m, none⟩ = some (.int .u8 x) := ⟨_, rfl, dg_dig HXL.out.2 (by rw [HXL.out.1]; omega), by have := HG.out.2.2.2.1 m (by rw [HXL.out.1]; omega); rwa [Nat.zero_add] at this⟩
      obtain ⟨y, HYy, hyd, hy⟩ : ∃ y, Hid (dg Y m = y) ∧ (48 ≤ y ∧ y ≤ 57) ∧ W3.cell? ⟨g2, m, none⟩ = some (.int .u8 y) := ⟨_, rfl, dg_dig HYL.out.2 (by rw [HYL.out.1]; omega), by have := HG.out.2.2.2.2.1 m (by rw [HYL.out.1]; omega); rwa [Nat.zero_add] at this⟩
      rw [← hb.cell (p := ⟨g1, m, none⟩) HG.out.1] at hx
      rw [← hb.cell (p := ⟨g2, m, none⟩) HG.out.2.1] at hy
      have hc := hF.cell (i := m + 1) (by omega)
      have hf := hF.fr (m + 1)
      have hmn : (m : Int) < (ys.length : Int) := by omega
      have hmnn : m < ys.length := by omega
      by_cases hv : 10 ≤ (x - 48) + (y - 48) + B
      · have HN : Hid _ := fun q => add_round (v := (x - 48) + (y - 48) + B - 10) (C' := 1) HXL.out.1 HYL.out.1 hm HXx.out HYy.out hb hF hI (by omega) (by omega) (by omega) q
        clear hb hF hI HB
        go_wp2
        go_quiet (fail)
        go_wp2
        go_roundw
        case rel => exact ⟨m, 1, by omega, by go_num, rfl, by omega, HN.out _⟩
        case measure => simp [intOf]
      · have HN : Hid _ := fun q => add_round (v := (x - 48) + (y - 48) + B) (C' := 0) HXL.out.1 HYL.out.1 hm HXx.out HYy.out hb hF hI (by omega) (by omega) (by omega) q
        clear hb hF hI HB
        go_wp2
        go_quiet (fail)
        go_wp2
        go_roundw
        case rel => exact ⟨m, 0, by omega, by go_num, rfl, by omega, HN.out _⟩
        case measure => simp [intOf]

end Go.Proofs.Qxb6600033a
