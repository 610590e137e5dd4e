/-
  THE WALK of FnFloorBracketsTheNumber.
-/
import Derived.Test.Qxb6600033aRBase
import Derived.Test.Qxb6600033aFloor
import Derived.Test.Qxb6600033aFlCmp
import Derived.Test.Qxb6600033aFwf
namespace Go.Proofs.Qxb6600033a
open Go.RowKit
set_option linter.unusedVariables false
set_option maxRecDepth 100000

theorem floor_big {w : World} {D : Nat} {neg : Bool} {n : Int} {f : Nat → Int} {long : Value} {pt : Int} (P : Nat) (h : DecAt w D neg n f long pt) (hpt : 18 < pt) :
    Calls Try.prog 27 #[.pointer (some ⟨D, 0, none⟩), .int .i64 P] w fun e w' => e = .returned (.tuple #[.int .i64 0, .int .u64 0, .bool false]) ∧ w' = w := by
  have h25 : w.cell? ⟨D, 25, none⟩ = some (.int .i64 pt) := by exact h.cell 25
  clear h
  go_enter Try.func27, Try.ntmps27
  go_wp2
  refine bodyPost_ret (results_tmp3 Try.results27 _ _ _) rfl ?_
  exact ⟨rfl, rfl⟩

theorem one_nums : nums ⟨#[49]⟩ = [49] := rfl
theorem one_norm : Norm (nums ⟨#[49]⟩) := by
  rw [one_nums]
  exact ⟨fun x hx => by simp at hx; omega, fun _ => by simp [dg]⟩
theorem one_mag (K : Nat) : mag (nums ⟨#[49]⟩) 19 K = 10 ^ (K + 18) := by
  rw [one_nums]
  unfold mag
  rw [show ((K : Int) + 19 - ([49] : List Int).length).toNat = K + 18 from by simp; omega]
  simp [val10]
theorem small_is {ds : List Int} {pt : Int} (hv : Valid ds) (h0 : ds.length = 0 → pt = 0) (hl : ds.length ≤ 65536) (hpt : -10000 ≤ pt) : cmpMag ds pt (nums ⟨#[49]⟩) 19 < 0 ↔ pt ≤ 18 := by
  have hK : (ds.length : Int) ≤ ((100000 : Nat) : Int) + pt := by omega
  have hc := cmpMag_is (K := 100000) (bp := 19) hv.norm one_norm hK (by rw [one_nums]; simp)
  rw [one_mag] at hc
  have hp := pow_pos10 (100000 + 18)
  rcases Nat.eq_zero_or_pos ds.length with h | h
  · have := h0 h
    rw [mag_empty h] at hc
    rcases hc with ⟨hc, h'⟩ | ⟨hc, h'⟩ | ⟨hc, h'⟩ <;> omega
  · have hb := mag_bounds hv.norm h hK
    rcases Int.lt_or_le 18 pt with h' | h'
    · have := pow_mono10 (show 100000 + 18 ≤ (((100000 : Nat) : Int) + pt - 1).toNat by omega)
      rcases hc with ⟨hc, h''⟩ | ⟨hc, h''⟩ | ⟨hc, h''⟩ <;> omega
    · have := pow_mono10 (show (((100000 : Nat) : Int) + pt).toNat ≤ 100000 + 18 by omega)
      rcases hc with ⟨hc, h''⟩ | ⟨hc, h''⟩ | ⟨hc, h''⟩ <;> omega

theorem fl_long1 (neg lg : Bool) (s : ByteArray) (pt keep : Int) (w : World) (h : 1048576 < s.size) (hm : s.size ≤ maxLen) :
    Calls Try.prog 6 #[.bool neg, .string s, .int .i64 pt, .bool lg, .int .i64 keep] w fun e w' => e = .returned (.bool true) ∧ Below w.heap.size w w' := by
  go_enter Try.func6, Try.ntmps6
  go_wp2_with fail
  refine (fl_bytes_no neg lg s pt keep w h hm).mono ?_
  rintro e w1 ⟨rfl, hw1⟩
  obtain rfl := hw1.symm
  clear hw1
  go_wp2
  go_ret
  exact ⟨rfl, Below.refl _ _⟩
theorem fl_long2 (neg lg : Bool) (s : ByteArray) (pt keep : Int) (w : World) (h : s.size ≤ 1048576) (h6 : 65536 < s.size) :
    Calls Try.prog 6 #[.bool neg, .string s, .int .i64 pt, .bool lg, .int .i64 keep] w fun e w' => e = .returned (.bool true) ∧ Below w.heap.size w w' := by
  have h6' : (65536 : Int) < (s.size : Int) := by omega
  go_enter Try.func6, Try.ntmps6
  go_wp2_with fail
  refine (fl_bytes_ok neg lg s pt keep w h).mono ?_
  rintro e w1 ⟨rfl, hw1⟩
  obtain rfl := hw1.symm
  clear hw1
  go_wp2
  go_ret
  exact ⟨rfl, Below.refl _ _⟩
theorem fl_places (neg lg : Bool) (s : ByteArray) (pt keep : Int) (w : World) (h : s.size ≤ 65536) (hk : keep < 0 ∨ 19 < keep) :
    Calls Try.prog 6 #[.bool neg, .string s, .int .i64 pt, .bool lg, .int .i64 keep] w fun e w' => e = .returned (.bool true) ∧ Below w.heap.size w w' := by
  have hs6 : decide ((65536 : Int) < (s.size : Int)) = false := decide_eq_false (by omega)
  have hs6n : ¬ 65536 < s.size := by omega
  rcases hk with hk | hk
  · go_enter Try.func6, Try.ntmps6
    go_wp2_with fail
    refine (fl_bytes_ok neg lg s pt keep w (by omega)).mono ?_
    rintro e w1 ⟨rfl, hw1⟩
    obtain rfl := hw1.symm
    clear hw1
    go_wp2
    go_ret
    exact ⟨rfl, Below.refl _ _⟩
  · have hk0 : ¬ keep < 0 := by omega
    go_enter Try.func6, Try.ntmps6
    go_wp2_with fail
    refine (fl_bytes_ok neg lg s pt keep w (by omega)).mono ?_
    rintro e w1 ⟨rfl, hw1⟩
    obtain rfl := hw1.symm
    clear hw1
    go_wp2
    go_ret
    exact ⟨rfl, Below.refl _ _⟩
theorem fl_not_valid (neg lg : Bool) (s : ByteArray) (pt : Int) (P : Nat) (w : World) (h : s.size ≤ 65536) (hP : P ≤ 19) (hv : ¬ ValidDec (nums s) pt) :
    Calls Try.prog 6 #[.bool neg, .string s, .int .i64 pt, .bool lg, .int .i64 P] w fun e w' => e = .returned (.bool true) ∧ Below w.heap.size w w' := by
  have hs6 : decide ((65536 : Int) < (s.size : Int)) = false := decide_eq_false (by omega)
  have hs6n : ¬ 65536 < s.size := by omega
  have HV : Hid (¬ ValidDec (nums s) pt) := hv
  have hP19 : decide ((19 : Int) < (P : Int)) = false := decide_eq_false (by omega)
  have hP19n : ¬ 19 < P := by omega
  clear hv
  go_enter Try.func6, Try.ntmps6
  go_wp2_with fail
  refine (fl_bytes_ok neg lg s pt P w (by omega)).mono ?_
  rintro e w1 ⟨rfl, hw1⟩
  obtain rfl := hw1.symm
  clear hw1
  go_wp2_with fail
  refine (valid_dec s pt w (by omega)).mono ?_
  rintro e w1 ⟨⟨v, rfl, hv⟩, hw1⟩
  obtain rfl := hw1.symm
  clear hw1
  obtain rfl : v = false := by
    cases v with
    | false => rfl
    | true => exact absurd (hv.1 rfl) HV.out
  clear hv
  go_wp2
  go_ret
  exact ⟨rfl, Below.refl _ _⟩

set_option maxHeartbeats 8000000 in
theorem fl_refused (neg lg : Bool) (s : ByteArray) (pt : Int) (P : Nat) (w : World) (hs : s.size ≤ 65536) (hP : P ≤ 19) (hv : ValidDec (nums s) pt) (hpt18 : 18 < pt) :
    Calls Try.prog 6 #[.bool neg, .string s, .int .i64 pt, .bool lg, .int .i64 P] w fun e w' => e = .returned (.bool true) ∧ Below w.heap.size w w' := by
  have hs6 : decide ((65536 : Int) < (s.size : Int)) = false := decide_eq_false (by omega)
  have hs6n : ¬ 65536 < s.size := by omega
  have hP19 : decide ((19 : Int) < (P : Int)) = false := decide_eq_false (by omega)
  have hP19n : ¬ 19 < P := by omega
  have HV : Hid (ValidDec (nums s) pt) := hv
  have HL : Hid ((nums s).length = s.size) := nums_length s
  have HSm : Hid (¬ cmpMag (nums s) pt (nums ⟨#[49]⟩) 19 < 0) := fun h => by
    have := (small_is hv.1 (fun h0 => by rcases hv.2 with h' | h' <;> omega) (by rw [HL.out]; exact hs) (by rcases hv.2 with h' | h' <;> omega)).1 h
    omega
  clear hv
  go_enter Try.func6, Try.ntmps6
  go_wp2_with fail
  refine (fl_bytes_ok neg lg s pt P w (by omega)).mono ?_
  rintro e w1 ⟨rfl, hw1⟩
  obtain rfl := hw1.symm
  clear hw1
  go_wp2_with fail
  refine (valid_dec_true s pt w (by omega) HV.out).mono ?_
  rintro e w1 ⟨rfl, hw1⟩
  obtain rfl := hw1.symm
  clear hw1
  go_wp2_with fail
  refine (make_any neg lg s pt w hs).mono ?_
  rintro e w1 ⟨n, f, long, rfl, ho, hb1, hcs⟩
  have HM := show Hid _ from made_src (neg := neg) (pt := pt) hcs
  have HB1 : Hid (Below w.heap.size w w1) := hb1
  clear hb1 hcs
  go_wp2_with (first | (refine store_last rfl (.tmp 11) (.tmp 48) rfl _ (by simp) _ rfl neg n f long pt ho rfl rfl ?_))
  refine (floor_big P HM.out.1 hpt18).mono ?_
  rintro e w3 ⟨rfl, hw3⟩
  obtain rfl := hw3.symm
  clear hw3
  have HBw := show Hid (Below w.heap.size w (w1.alloc (.cells (dec26 neg n f long pt) 27))) from HB1.out.trans ((Below.refl w.heap.size w1).alloc HB1.out.size _)
  clear HM HB1
  generalize w1.alloc (.cells (dec26 neg n f long pt) 27) = W at *
  generalize w1.heap.size = D at *
  obtain ⟨c, HC, hc⟩ : ∃ c, Hid (cmpMag (nums s) pt (nums ⟨#[49]⟩) 19 = c) ∧ decide (c < 0) = false := ⟨_, rfl, decide_eq_false (by have := HSm.out; omega)⟩
  go_wp2_with fail
  refine (cmp_mag s ⟨#[49]⟩ pt 19 W HV.out.1.1 one_norm.1 hs (by decide)).mono ?_
  rintro e w4 ⟨rfl, hw4⟩
  obtain rfl := hw4.symm
  clear hw4
  rw [HC.out]
  go_wp2
  go_ret
  exact ⟨rfl, HBw.out⟩

set_option maxHeartbeats 8000000 in
theorem fl_main (neg lg : Bool) (s : ByteArray) (pt : Int) (P : Nat) (w : World) (hs : s.size ≤ 65536) (hP : P ≤ 19) (hv : ValidDec (nums s) pt) (hpt18 : pt ≤ 18) :
    Calls Try.prog 6 #[.bool neg, .string s, .int .i64 pt, .bool lg, .int .i64 P] w fun e w' => e = .returned (.bool true) ∧ Below w.heap.size w w' := by
  have hs6 : decide ((65536 : Int) < (s.size : Int)) = false := decide_eq_false (by omega)
  have hs6n : ¬ 65536 < s.size := by omega
  have hP19 : decide ((19 : Int) < (P : Int)) = false := decide_eq_false (by omega)
  have hP19n : ¬ 19 < P := by omega
  have HV : Hid (ValidDec (nums s) pt) := hv
  have HL : Hid ((nums s).length = s.size) := nums_length s
  have hpl : -10000 ≤ pt := by rcases hv.2 with h' | h' <;> omega
  have H0 : Hid ((nums s).length = 0 → pt = 0) := fun h0 => by rcases hv.2 with h' | h' <;> omega
  have HSm : Hid (cmpMag (nums s) pt (nums ⟨#[49]⟩) 19 < 0) := (small_is hv.1 H0.out (by rw [HL.out]; exact hs) hpl).2 hpt18
  clear hv
  go_enter Try.func6, Try.ntmps6
  go_wp2_with fail
  refine (fl_bytes_ok neg lg s pt P w (by omega)).mono ?_
  rintro e w1 ⟨rfl, hw1⟩
  obtain rfl := hw1.symm
  clear hw1
  go_wp2_with fail
  refine (valid_dec_true s pt w (by omega) HV.out).mono ?_
  rintro e w1 ⟨rfl, hw1⟩
  obtain rfl := hw1.symm
  clear hw1
  go_wp2_with fail
  refine (make_any neg lg s pt w hs).mono ?_
  rintro e w1 ⟨n, f, long, rfl, ho, hb1, hcs⟩
  have HM := show Hid _ from made_src (neg := neg) (pt := pt) hcs
  have HB1 : Hid (Below w.heap.size w w1) := hb1
  clear hb1 hcs
  go_wp2_with (first | (refine store_last rfl (.tmp 11) (.tmp 48) rfl _ (by simp) _ rfl neg n f long pt ho rfl rfl ?_))
  obtain ⟨b0, off0, c0, HS⟩ := HM.out.2
  refine (floor_walk P HM.out.1 HS HV.out.1.1 (by rw [HL.out]; exact hs) ⟨hpl, hpt18⟩ hP).mono ?_
  rintro e w3 ⟨rfl, HB3⟩
  have HBw : Hid (Below w.heap.size w w3) := by
    have b1 := HB1.out.trans ((Below.refl w.heap.size w1).alloc HB1.out.size (.cells (dec26 neg n f long pt) 27))
    exact b1.trans (HB3.out.mono b1.size)
  have HRg := show Hid _ from fl_range neg (ds := nums s) HV.out.1.1 hpt18 P
  obtain ⟨W, HW, hW⟩ : ∃ W, Hid (flW neg (nums s) pt P = W) ∧ (-1000000000000000000 ≤ W ∧ W ≤ 1000000000000000000) := ⟨_, rfl, HRg.out.2.2⟩
  have hpw : (10 : Int) ^ P ≤ 10 ^ 19 := pow_mono10 hP
  have hpw2 : (10 : Int) ^ 19 = 10000000000000000000 := rfl
  obtain ⟨F, HF, HF2, hF⟩ : ∃ F, Hid (flF neg (nums s) pt P = F) ∧ Hid (F < 10 ^ P) ∧ (0 ≤ F ∧ F < 10000000000000000000) := ⟨_, rfl, HRg.out.2.1, by have := HRg.out; omega⟩
  obtain ⟨U, HU, hU⟩ : ∃ U, Hid ((10 : Int) ^ P = U) ∧ F < U := ⟨_, rfl, HF2.out⟩
  clear hpw hpw2
  rw [HW.out, HF.out]
  clear HM HB1 HS HB3 HRg
  generalize w1.heap.size = D at *
  obtain ⟨c, HC, hc⟩ : ∃ c, Hid (cmpMag (nums s) pt (nums ⟨#[49]⟩) 19 = c) ∧ c < 0 := ⟨_, rfl, HSm.out⟩
  clear HSm
  go_wp2_with fail
  refine (cmp_mag s ⟨#[49]⟩ pt 19 w3 HV.out.1.1 one_norm.1 hs (by decide)).mono ?_
  rintro e w4 ⟨rfl, hw4⟩
  obtain rfl := hw4.symm
  clear hw4
  rw [HC.out]
  go_wp2_with fail
  refine (pow10_walk P w3 hP).mono ?_
  rintro e w4 ⟨rfl, hw4⟩
  obtain rfl := hw4.symm
  clear hw4
  rw [HU.out]
  go_wp2_with fail
  refine (fwf_any W F P w3 hW (by have := HF2.out; omega) hP).mono ?_
  rintro e w4 ⟨l, lp, rfl, H4⟩
  obtain ⟨ln, HLn⟩ : ∃ ln, Hid ((decide (W < 0) && decide (0 < (nums l).length)) = ln) := ⟨_, rfl⟩
  rw [HLn.out]
  go_wp2_with fail
  refine (fwf_any W (F + 1) P w4 hW (by have := HF2.out; omega) hP).mono ?_
  rintro e w5 ⟨h, hp, rfl, H5⟩
  obtain ⟨hn, HHn⟩ : ∃ hn, Hid ((decide (W < 0) && decide (0 < (nums h).length)) = hn) := ⟨_, rfl⟩
  rw [HHn.out]
  have HLaw : Hid (cmpDec ln (nums l) lp neg (nums s) pt ≤ 0 ∧ cmpDec neg (nums s) pt hn (nums h) hp < 0) := by
    have h1 := H4.out.1
    have h2 := H5.out.1
    have hlaw := floor_law neg (ds := nums s) (pt := pt) (P := P) (l := nums l) (h := nums h) (lp := lp) (hp := hp) (wn := decide (W < 0)) HV.out.1 H0.out (by rw [HL.out]; exact hs) hpl hP (by rw [HW.out, HF.out]; exact h1) (by rw [HW.out, HF.out]; exact h2)
    rw [HLn.out, HHn.out] at hlaw
    exact hlaw
  have HB5 : Hid (Below w.heap.size w w5) := by
    have b1 := HBw.out.trans (H4.out.2.2.mono HBw.out.size)
    exact b1.trans (H5.out.2.2.mono b1.size)
  have HNs : Hid (IsDig (nums l) ∧ IsDig (nums h)) := ⟨H4.out.1.1.1, H5.out.1.1.1⟩
  have hls : l.size ≤ 65536 := by have := H4.out.2.1; omega
  have hhs : h.size ≤ 65536 := by have := H5.out.2.1; omega
  obtain ⟨x, HX, hx⟩ : ∃ x, Hid (cmpDec ln (nums l) lp neg (nums s) pt = x) ∧ x ≤ 0 := ⟨_, rfl, HLaw.out.1⟩
  obtain ⟨y, HY, hy⟩ : ∃ y, Hid (cmpDec neg (nums s) pt hn (nums h) hp = y) ∧ y < 0 := ⟨_, rfl, HLaw.out.2⟩
  clear HLaw H4 H5 HLn HHn
  have hx' : decide (0 < x) = false := decide_eq_false (by omega)
  go_wp2_with fail
  refine (cmp_dec ln neg l s lp pt w5 HNs.out.1 HV.out.1.1 hls hs).mono ?_
  rintro e w6 ⟨rfl, hw6⟩
  obtain rfl := hw6.symm
  clear hw6
  rw [HX.out]
  go_wp2_with fail
  refine (cmp_dec neg hn s h pt hp w5 HV.out.1.1 HNs.out.2 hs hhs).mono ?_
  rintro e w6 ⟨rfl, hw6⟩
  obtain rfl := hw6.symm
  clear hw6
  rw [HY.out]
  go_wp2
  go_ret
  exact ⟨rfl, HB5.out⟩

theorem floor_whole (neg lg : Bool) (s : ByteArray) (pt keep : Int) (w : World) (hm : s.size ≤ maxLen) :
    Calls Try.prog 6 #[.bool neg, .string s, .int .i64 pt, .bool lg, .int .i64 keep] w fun e w' => e = .returned (.bool true) ∧ Below w.heap.size w w' := by
  by_cases h1 : 1048576 < s.size
  · exact fl_long1 neg lg s pt keep w h1 hm
  by_cases h2 : 65536 < s.size
  · exact fl_long2 neg lg s pt keep w (by omega) h2
  by_cases hk : keep < 0 ∨ 19 < keep
  · exact fl_places neg lg s pt keep w (by omega) hk
  obtain ⟨P, rfl⟩ : ∃ P : Nat, keep = P := ⟨keep.toNat, by omega⟩
  by_cases hv : ValidDec (nums s) pt
  case neg => exact fl_not_valid neg lg s pt P w (by omega) (by omega) hv
  by_cases h18 : pt ≤ 18
  · exact fl_main neg lg s pt P w (by omega) (by omega) hv h18
  · exact fl_refused neg lg s pt P w (by omega) (by omega) hv (by omega)

end Go.Proofs.Qxb6600033a
