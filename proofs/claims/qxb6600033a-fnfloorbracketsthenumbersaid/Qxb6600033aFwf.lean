/-
  THE WALK of zzB1FromWholeFrac.
-/
import Derived.Test.Qxb6600033aItoa
import Derived.Test.Qxb6600033aAdd
import Derived.Test.Qxb6600033aNormS
namespace Go.Proofs.Qxb6600033a
open Go.RowKit
set_option linter.unusedVariables false
set_option maxRecDepth 100000

theorem add_any {n m : Nat} (b c b2 c2 : Nat) (xs ys : List Int) (w : World) (hxl : xs.length = n) (hyl : ys.length = m) (h1 : Row8 w b 0 xs) (h2 : Row8 w b2 0 ys) (hd1 : IsDig xs) (hd2 : IsDig ys) (hn : n ≤ 60) (hm : m ≤ 60) :
    Calls Try.prog 40 #[.slice (some ⟨b, 0, none⟩) n c, .slice (some ⟨b2, 0, none⟩) m c2] w fun e w' => ∃ g : Nat, ∃ zs : List Int, e = .returned (.slice (some ⟨g, 0, none⟩) zs.length zs.length) ∧ Hid (IsDig zs ∧ zs.length ≤ 61 ∧ Row8 w' g 0 zs ∧ Below w.heap.size w w' ∧ val10 zs = val10 xs + val10 ys) := by
  subst hxl hyl
  rcases Nat.lt_or_ge xs.length ys.length with h | h
  · refine (add_gt b 0 c b2 0 c2 xs ys w h1 h2 hd1 hd2 h (by omega)).mono ?_
    rintro e w' ⟨g, zs, rfl, a1, a2, a3, a4, a5⟩
    exact ⟨g, zs, by rw [a1], a2, by omega, a3, a4, a5⟩
  · refine (add_le b 0 c b2 0 c2 xs ys w h1 h2 hd1 hd2 h (by omega)).mono ?_
    rintro e w' ⟨g, zs, rfl, a1, a2, a3, a4, a5⟩
    exact ⟨g, zs, by rw [a1], a2, by omega, a3, a4, a5⟩
theorem sub_fit {zs : List Int} {n : Nat} {bo : Bool} {a b : Int} (h1 : zs.length = n) (h2 : IsDig zs) (h3 : val10 zs = a - b + (if bo then 1 else 0) * 10 ^ n) (h4 : b ≤ a) : bo = false ∧ val10 zs = a - b := by
  have hb := val_bounds zs h2
  rw [h1] at hb
  cases bo with
  | false => simp at h3; exact ⟨rfl, by omega⟩
  | true => simp at h3; omega
theorem sub_any {n m : Nat} (b c b2 c2 : Nat) (xs ys : List Int) (w : World) (hxl : xs.length = n) (hyl : ys.length = m) (h1 : Row8 w b 0 xs) (h2 : Row8 w b2 0 ys) (hd1 : IsDig xs) (hd2 : IsDig ys) (hn : n ≤ 60) (hm : m ≤ 60) (hle : val10 ys ≤ val10 xs) :
    Calls Try.prog 21 #[.slice (some ⟨b, 0, none⟩) n c, .slice (some ⟨b2, 0, none⟩) m c2] w fun e w' => ∃ g : Nat, ∃ zs : List Int, e = .returned (.tuple #[.slice (some ⟨g, 0, none⟩) zs.length zs.length, .bool false]) ∧ Hid (IsDig zs ∧ zs.length ≤ 61 ∧ Row8 w' g 0 zs ∧ Below w.heap.size w w' ∧ val10 zs = val10 xs - val10 ys) := by
  subst hxl hyl
  rcases Nat.lt_or_ge xs.length ys.length with h | h
  · refine (sub_gt b 0 c b2 0 c2 xs ys w h1 h2 hd1 hd2 h (by omega)).mono ?_
    rintro e w' ⟨g, zs, bo, rfl, a1, a2, a3, a4, a5⟩
    obtain ⟨rfl, hv⟩ := sub_fit a1 a2 a5 hle
    exact ⟨g, zs, by rw [a1], a2, by omega, a3, a4, hv⟩
  · refine (sub_le b 0 c b2 0 c2 xs ys w h1 h2 hd1 hd2 h (by omega)).mono ?_
    rintro e w' ⟨g, zs, bo, rfl, a1, a2, a3, a4, a5⟩
    obtain ⟨rfl, hv⟩ := sub_fit a1 a2 a5 hle
    exact ⟨g, zs, by rw [a1], a2, by omega, a3, a4, hv⟩

theorem results_tmp4 {fn : Func} {t u v x : Tmp} (h : fn.results = #[.tmp t, .tmp u, .tmp v, .tmp x]) (tmps : Array Value) (P : Program) (w : World) :
    (results fn tmps).run P w = .ok (.tuple #[tmps.getD t undef, tmps.getD u undef, tmps.getD v undef, tmps.getD x undef]) w := by
  simp [results, h]

attribute [local go_sem ↓] mk25_eq cp25_eq

set_option maxHeartbeats 4000000 in
theorem fwf_pos (A F : Int) (P : Nat) (w : World) (hA : 0 ≤ A ∧ A ≤ 1000000000000000000) (hF : 0 ≤ F ∧ F ≤ 10000000000000000000) (hP : P ≤ 19) :
    Calls Try.prog 30 #[.int .i64 A, .int .u64 F, .int .i64 P] w fun e w' => ∃ r : ByteArray, ∃ rp : Int, e = .returned (.tuple #[.bool false, .string r, .int .i64 rp, .bool true]) ∧ Hid (NormOf (A * 10 ^ P + F) P (nums r) rp ∧ r.size ≤ 100 ∧ Below w.heap.size w w') := by
  have hAn : decide (A < 0) = false := decide_eq_false (by omega)
  have hAn2 : ¬ A < 0 := by omega
  go_enter Try.func30, Try.ntmps30
  go_wp2_with fail
  refine (itoa_any A w (by omega)).mono ?_
  rintro e w1 ⟨g1, xs, rfl, H1⟩
  obtain ⟨N, hN⟩ : ∃ N, N = xs.length + P := ⟨_, rfl⟩
  have hNi : (xs.length : Int) + (P : Int) = (N : Int) := by omega
  have hxl : 0 < xs.length ∧ xs.length ≤ 20 := ⟨H1.out.1, H1.out.2.1⟩
  have HN : Hid (N = xs.length + P) := hN
  have hNb : N ≤ 40 ∧ xs.length ≤ N := by omega
  clear hN
  obtain ⟨W2, hmk, H2⟩ := make_full w1 N (by omega)
  obtain ⟨W3, F', hcp, H3⟩ := copy_into H2.out.2 g1 0 xs.length xs (H1.out.2.2.2.2.1.below H2.out.1) hNb.2
  have HS : Hid (w.heap.size ≤ w1.heap.size ∧ w1.heap.size < W3.heap.size) := by
    refine ⟨H1.out.2.2.2.2.2.1.size, H3.out.2.1.lt⟩
  generalize hg2 : w1.heap.size = g2 at *
  have HG2 : Hid (w1.heap.size = g2) := hg2
  clear hg2
  go_wp2
  go_loopw [14] (fun i wr => ∃ j : Nat, xs.length ≤ j ∧ j ≤ N ∧ i = .int .i64 j ∧ Hid (Below g2 W3 wr ∧ ∃ F, Buf wr g2 N F ∧ (∀ t, t < xs.length → F t = dg xs t) ∧ (∀ t, xs.length ≤ t → t < j → F t = 48))) (fun i _ => N - (intOf i).toNat)
  case atStart => exact ⟨xs.length, Nat.le_refl _, hNb.2, rfl, Below.refl _ _, _, H3.out.2.1, H3.out.2.2.1, fun t h1 h2 => by omega⟩
  case round =>
    obtain ⟨j, hj1, hj2, rfl, HB⟩ := hrel
    by_cases hjN : j < N
    · obtain ⟨hb, G, hG, h1, h2⟩ := HB.out
      have hc := hG.cell (i := j) (by omega)
      have hf := hG.fr j
      have HNx : Hid _ := (show _ ∧ _ from ⟨hb.setCell (p := ⟨g2, j, none⟩) (Nat.le_refl _) (.int .u8 48), upd G j 48, hG.set (i := j) (by omega) 48, fun t ht => by
        unfold upd
        rw [if_neg (by omega)]
        exact h1 t ht, fun t ht ht2 => by
        unfold upd
        split
        · rfl
        · exact h2 t ht (by omega)⟩ : (Below g2 W3 _ ∧ ∃ F, Buf _ g2 N F ∧ (∀ t, t < xs.length → F t = dg xs t) ∧ (∀ t, xs.length ≤ t → t < j + 1 → F t = 48)))
      clear hb hG h1 h2 HB
      have hjn : (j : Int) < (N : Int) := by omega
      go_wp2
      go_roundw
      case rel => exact ⟨j + 1, by omega, by omega, by go_num, HNx.out⟩
      case measure => simp [intOf]; omega
    · obtain rfl : j = N := by omega
      have hjj : decide ((j : Int) < (j : Int)) = false := decide_eq_false (by omega)
      obtain ⟨sc, HSc⟩ : ∃ sc, Hid (sc = xs ++ zeros P) := ⟨_, rfl⟩
      have HSC : Hid (sc.length = j ∧ IsDig sc ∧ val10 sc = A * 10 ^ P ∧ Row8 wr g2 0 sc ∧ Below w.heap.size w wr ∧ g2 < wr.heap.size) := by
        obtain ⟨hb, G, hG, h1, h2⟩ := HB.out
        have hNN := HN.out
        have hl : sc.length = j := by rw [HSc.out, List.length_append, zeros_length]; omega
        refine ⟨hl, by rw [HSc.out]; exact dig_append H1.out.2.2.1 (zeros_dig _), by rw [HSc.out, val_append, zeros_length, val_zeros, H1.out.2.2.2.1]; omega, hG.row (by omega) (fun i hi => ?_), ?_, hG.lt⟩
        · by_cases e : i < xs.length
          · rw [h1 i e, HSc.out, dg_append_left e]
          · rw [h2 i (by omega) (by omega), HSc.out, dg_append_right (by omega)]
            simp [dg, zeros, List.getD_eq_getElem?_getD, show i - xs.length < P from by omega]
        · have s1 := HS.out.1
          have b1 := H1.out.2.2.2.2.2.1
          exact (b1.trans (H2.out.1.mono s1)).trans ((H3.out.1.mono s1).trans (hb.mono s1))
      clear HB H1 H2 H3 HS HN
      go_wp2_with fail
      refine (itoa_any F wr (by omega)).mono ?_
      rintro e w4 ⟨g4, ys, rfl, H4⟩
      have hyl : 0 < ys.length ∧ ys.length ≤ 20 := ⟨H4.out.1, H4.out.2.1⟩
      go_wp2_with fail
      refine (add_any g2 j g4 ys.length sc ys w4 HSC.out.1 rfl (HSC.out.2.2.2.1.below H4.out.2.2.2.2.2.1) H4.out.2.2.2.2.1 HSC.out.2.1 H4.out.2.2.1 (by omega) (by omega)).mono ?_
      rintro e w5 ⟨g5, zs, rfl, H5⟩
      have hzl : zs.length ≤ 61 := H5.out.2.1
      go_wp2_with fail
      refine (norm_scaled g5 zs.length zs P w5 H5.out.2.2.1 H5.out.1 (Nat.le_refl _) (by omega) hP).mono ?_
      rintro e w6 ⟨r, rp, rfl, HR, hw6⟩
      obtain rfl := hw6.symm
      clear hw6
      go_wp2
      refine bodyPost_ret (results_tmp4 Try.results30 _ _ _) rfl ?_
      refine ⟨r, rp, rfl, ?_, ?_, ?_⟩
      · have := HR.out.1
        rwa [H5.out.2.2.2.2, HSC.out.2.2.1, H4.out.2.2.2.1] at this
      · have := HR.out.2; omega
      · have b1 := HSC.out.2.2.2.2.1
        have b2 := H4.out.2.2.2.2.2.1.mono b1.size
        have b3 := H5.out.2.2.2.1.mono (b1.trans b2).size
        exact (b1.trans b2).trans b3

set_option maxHeartbeats 4000000 in
theorem fwf_neg (W F : Int) (P : Nat) (w : World) (hA : -1000000000000000000 ≤ W ∧ W < 0) (hF : 0 ≤ F ∧ F ≤ 10000000000000000000) (hFW : F ≤ -W * 10 ^ P) (hP : P ≤ 19) :
    Calls Try.prog 30 #[.int .i64 W, .int .u64 F, .int .i64 P] w fun e w' => ∃ r : ByteArray, ∃ rp : Int, e = .returned (.tuple #[.bool (decide (0 < r.size)), .string r, .int .i64 rp, .bool true]) ∧ Hid (NormOf (-W * 10 ^ P - F) P (nums r) rp ∧ r.size ≤ 100 ∧ Below w.heap.size w w') := by
  have HFW : Hid (F ≤ -W * 10 ^ P) := hFW
  clear hFW
  go_enter Try.func30, Try.ntmps30
  go_wp2_with fail
  refine (itoa_any _ w (by omega)).mono ?_
  rintro e w1 ⟨g1, xs, rfl, H1⟩
  have HA : Hid (val10 xs = -W) := by have := H1.out.2.2.2.1; show _ = _; omega
  obtain ⟨N, hN⟩ : ∃ N, N = xs.length + P := ⟨_, rfl⟩
  have hNi : (xs.length : Int) + (P : Int) = (N : Int) := by omega
  have hxl : 0 < xs.length ∧ xs.length ≤ 20 := ⟨H1.out.1, H1.out.2.1⟩
  have HN : Hid (N = xs.length + P) := hN
  have hNb : N ≤ 40 ∧ xs.length ≤ N := by omega
  clear hN
  obtain ⟨W2, hmk, H2⟩ := make_full w1 N (by omega)
  obtain ⟨W3, F', hcp, H3⟩ := copy_into H2.out.2 g1 0 xs.length xs (H1.out.2.2.2.2.1.below H2.out.1) hNb.2
  have HS : Hid (w.heap.size ≤ w1.heap.size ∧ w1.heap.size < W3.heap.size) := by
    refine ⟨H1.out.2.2.2.2.2.1.size, H3.out.2.1.lt⟩
  generalize hg2 : w1.heap.size = g2 at *
  have HG2 : Hid (w1.heap.size = g2) := hg2
  clear hg2
  go_wp2
  go_loopw [14] (fun i wr => ∃ j : Nat, xs.length ≤ j ∧ j ≤ N ∧ i = .int .i64 j ∧ Hid (Below g2 W3 wr ∧ ∃ F, Buf wr g2 N F ∧ (∀ t, t < xs.length → F t = dg xs t) ∧ (∀ t, xs.length ≤ t → t < j → F t = 48))) (fun i _ => N - (intOf i).toNat)
  case atStart => exact ⟨xs.length, Nat.le_refl _, hNb.2, rfl, Below.refl _ _, _, H3.out.2.1, H3.out.2.2.1, fun t h1 h2 => by omega⟩
  case round =>
    obtain ⟨j, hj1, hj2, rfl, HB⟩ := hrel
    by_cases hjN : j < N
    · obtain ⟨hb, G, hG, h1, h2⟩ := HB.out
      have hc := hG.cell (i := j) (by omega)
      have hf := hG.fr j
      have HNx : Hid _ := (show _ ∧ _ from ⟨hb.setCell (p := ⟨g2, j, none⟩) (Nat.le_refl _) (.int .u8 48), upd G j 48, hG.set (i := j) (by omega) 48, fun t ht => by
        unfold upd
        rw [if_neg (by omega)]
        exact h1 t ht, fun t ht ht2 => by
        unfold upd
        split
        · rfl
        · exact h2 t ht (by omega)⟩ : (Below g2 W3 _ ∧ ∃ F, Buf _ g2 N F ∧ (∀ t, t < xs.length → F t = dg xs t) ∧ (∀ t, xs.length ≤ t → t < j + 1 → F t = 48)))
      clear hb hG h1 h2 HB
      have hjn : (j : Int) < (N : Int) := by omega
      go_wp2
      go_roundw
      case rel => exact ⟨j + 1, by omega, by omega, by go_num, HNx.out⟩
      case measure => simp [intOf]; omega
    · obtain rfl : j = N := by omega
      have hjj : decide ((j : Int) < (j : Int)) = false := decide_eq_false (by omega)
      obtain ⟨sc, HSc⟩ : ∃ sc, Hid (sc = xs ++ zeros P) := ⟨_, rfl⟩
      have HSC : Hid (sc.length = j ∧ IsDig sc ∧ val10 sc = -W * 10 ^ P ∧ Row8 wr g2 0 sc ∧ Below w.heap.size w wr ∧ g2 < wr.heap.size) := by
        obtain ⟨hb, G, hG, h1, h2⟩ := HB.out
        have hNN := HN.out
        have hl : sc.length = j := by rw [HSc.out, List.length_append, zeros_length]; omega
        refine ⟨hl, by rw [HSc.out]; exact dig_append H1.out.2.2.1 (zeros_dig _), by rw [HSc.out, val_append, zeros_length, val_zeros, HA.out]; omega, hG.row (by omega) (fun i hi => ?_), ?_, hG.lt⟩
        · by_cases e : i < xs.length
          · rw [h1 i e, HSc.out, dg_append_left e]
          · rw [h2 i (by omega) (by omega), HSc.out, dg_append_right (by omega)]
            simp [dg, zeros, List.getD_eq_getElem?_getD, show i - xs.length < P from by omega]
        · have s1 := HS.out.1
          have b1 := H1.out.2.2.2.2.2.1
          exact (b1.trans (H2.out.1.mono s1)).trans ((H3.out.1.mono s1).trans (hb.mono s1))
      clear HB H1 H2 H3 HS HN
      go_wp2_with fail
      refine (itoa_any F wr (by omega)).mono ?_
      rintro e w4 ⟨g4, ys, rfl, H4⟩
      have hyl : 0 < ys.length ∧ ys.length ≤ 20 := ⟨H4.out.1, H4.out.2.1⟩
      go_wp2_with fail
      refine (sub_any g2 j g4 ys.length sc ys w4 HSC.out.1 rfl (HSC.out.2.2.2.1.below H4.out.2.2.2.2.2.1) H4.out.2.2.2.2.1 HSC.out.2.1 H4.out.2.2.1 (by omega) (by omega) (by rw [H4.out.2.2.2.1, HSC.out.2.2.1]; exact HFW.out)).mono ?_
      rintro e w5 ⟨g5, zs, rfl, H5⟩
      have hzl : zs.length ≤ 61 := H5.out.2.1
      go_wp2_with fail
      refine (norm_scaled g5 zs.length zs P w5 H5.out.2.2.1 H5.out.1 (Nat.le_refl _) (by omega) hP).mono ?_
      rintro e w6 ⟨r, rp, rfl, HR, hw6⟩
      obtain rfl := hw6.symm
      clear hw6
      have hrs : r.size ≤ 100 := by have := HR.out.2; omega
      go_wp2
      refine bodyPost_ret (results_tmp4 Try.results30 _ _ _) rfl ?_
      refine ⟨r, rp, rfl, ?_, ?_, ?_⟩
      · have := HR.out.1
        rwa [H5.out.2.2.2.2, HSC.out.2.2.1, H4.out.2.2.2.1] at this
      · have := HR.out.2; omega
      · have b1 := HSC.out.2.2.2.2.1
        have b2 := H4.out.2.2.2.2.2.1.mono b1.size
        have b3 := H5.out.2.2.2.1.mono (b1.trans b2).size
        exact (b1.trans b2).trans b3

theorem fwf_any (W F : Int) (P : Nat) (w : World) (hW : -1000000000000000000 ≤ W ∧ W ≤ 1000000000000000000) (hF : 0 ≤ F ∧ F ≤ 10 ^ P) (hP : P ≤ 19) :
    Calls Try.prog 30 #[.int .i64 W, .int .u64 F, .int .i64 P] w fun e w' => ∃ r : ByteArray, ∃ rp : Int, e = .returned (.tuple #[.bool (decide (W < 0) && decide (0 < (nums r).length)), .string r, .int .i64 rp, .bool true]) ∧ Hid (NormOf (if decide (W < 0) then -(W * 10 ^ P + F) else W * 10 ^ P + F) P (nums r) rp ∧ r.size ≤ 100 ∧ Below w.heap.size w w') := by
  have h1 : (10 : Int) ^ P ≤ 10 ^ 19 := pow_mono10 hP
  have h2 : (10 : Int) ^ 19 = 10000000000000000000 := rfl
  have hp := pow_pos10 P
  by_cases hn : W < 0
  · have hFW : F ≤ -W * 10 ^ P := by
      have := Int.mul_le_mul_of_nonneg_right (show (1 : Int) ≤ -W by omega) (show 0 ≤ (10 : Int) ^ P by omega)
      omega
    refine (fwf_neg W F P w ⟨hW.1, hn⟩ (by omega) hFW hP).mono ?_
    rintro e w' ⟨r, rp, rfl, h1, h2, h3⟩
    refine ⟨r, rp, by rw [decide_eq_true hn, Bool.true_and, nums_length], ?_, h2, h3⟩
    rw [decide_eq_true hn, if_pos rfl, show -(W * 10 ^ P + F) = -W * 10 ^ P - F from by rw [Int.neg_mul]; omega]
    exact h1
  · refine (fwf_pos W F P w ⟨by omega, hW.2⟩ (by omega) hP).mono ?_
    rintro e w' ⟨r, rp, rfl, h1, h2, h3⟩
    refine ⟨r, rp, by rw [decide_eq_false hn, Bool.false_and], ?_, h2, h3⟩
    rw [decide_eq_false hn, if_neg (by simp)]
    exact h1

end Go.Proofs.Qxb6600033a
