/-
  THE WALK of FnRoundIsHalfEvenToKeepDigits.
-/
import Derived.Test.Qxb6600033aRBase
namespace Go.Proofs.Qxb6600033a
open Go.RowKit
set_option linter.unusedVariables false
set_option maxRecDepth 100000

attribute [local go_sem ↓] mk25_eq

set_option maxHeartbeats 8000000 in
theorem round_out (neg lg : Bool) (s : ByteArray) (pt keep : Int) (w : World) (hs : s.size ≤ 65536) (hv : ValidDec (nums s) pt) (hk : -9223372036854775808 ≤ keep ∧ keep ≤ 9223372036854775807) (hout : keep < 0 ∨ (s.size : Int) ≤ keep) :
    Calls Try.prog 3 #[.bool neg, .string s, .int .i64 pt, .bool lg, .int .i64 keep] w fun e w' => e = .returned (.bool true) ∧ Below w.heap.size w w' := by
  have HOut : Hid (keep < 0 ∨ (s.size : Int) ≤ keep) := hout
  clear hout
  have HV : Hid (ValidDec (nums s) pt) := hv
  have hpt : -10000 ≤ pt ∧ pt ≤ 10002 := by
    rcases hv.2 with ⟨_, h⟩ | ⟨_, h1, h2⟩ <;> omega
  have HL : Hid ((nums s).length = s.size) := nums_length s
  clear hv
  have hs6 : decide ((65536 : Int) < (s.size : Int)) = false := decide_eq_false (by omega)
  have hs6n : ¬ 65536 < s.size := by omega
  go_enter Try.func3, Try.ntmps3
  go_wp2_with fail
  refine (bytes_ok neg lg s pt keep w (by omega)).mono ?_
  rintro e w1 ⟨rfl, hw1⟩
  obtain rfl := hw1.symm
  clear hw1
  go_wp2_with fail
  refine (valid_dec_true s pt w (by omega) HV.out).mono ?_
  rintro e w1 ⟨rfl, hw1⟩
  obtain rfl := hw1.symm
  clear hw1
  go_wp2_with fail
  refine (make_any neg lg s pt w hs).mono ?_
  rintro e w1 ⟨n, f, long, rfl, ho, hb1, hcs⟩
  have HM := show Hid _ from made_src (neg := neg) (pt := pt) hcs
  have HB1 : Hid (Below w.heap.size w w1) := hb1
  clear hb1 hcs
  go_wp2_with (first | (refine store_last rfl (.tmp 11) (.tmp 46) rfl _ (by simp) _ rfl neg n f long pt ho rfl rfl ?_))
  obtain ⟨b0, off0, c0, HS⟩ := HM.out.2
  refine (zzround keep _ HM.out.1 ho HS HV.out.1.1 (by rw [HL.out]; exact hs) hpt).mono ?_
  rintro e w3 ⟨rfl, HO⟩
  obtain ⟨neg', pt', rs, n', f', long', b, off, c, hD, hS, hB, hSp⟩ := round_spec HO
  clear HO HS
  have HVR : Hid (Valid rs ∧ rs.length ≤ s.size + 1) := ⟨spec_valid hSp HV.out.1, by rw [← HL.out]; exact spec_length hSp HV.out.1⟩
  have HSp : Hid (Spec neg pt (nums s) keep neg' pt' rs) := hSp
  have HBw : Hid (Below w.heap.size w w3) := HB1.out.trans (((Below.refl w.heap.size w1).alloc HB1.out.size _).trans (hB.mono HB1.out.size))
  clear hSp hB
  generalize w1.heap.size = D at *
  have H : Hid (DecAt w3 D neg' n' f' long' pt' ∧ Src w3 D n' long' rs b off c) := ⟨hD, hS⟩
  clear hD hS HM HB1
  go_wp2_with fail
  refine (zzdigits H.out.1 H.out.2).mono ?_
  rintro e w4 ⟨rfl, q, hw4⟩
  subst hw4
  obtain ⟨r, HR, hcv⟩ := to_string (w := w3.drewN q) H.out.2.1 HVR.out.1.1 c
  have HRL : Hid (r.size = rs.length) := by show r.size = rs.length; rw [← HR.out, nums_length]
  go_wp2_with fail
  refine (zzneg_any D _ neg' (by exact H.out.1.cell 0)).mono ?_
  rintro e w5 ⟨rfl, hw5⟩
  obtain rfl := hw5.symm
  clear hw5
  go_wp2_with fail
  refine (zzpoint_any D _ pt' (by exact H.out.1.cell 25)).mono ?_
  rintro e w5 ⟨rfl, hw5⟩
  obtain rfl := hw5.symm
  clear hw5
  have hrs : r.size ≤ 65537 := by
    have := HRL.out
    have := HVR.out.2
    omega
  go_wp2_with fail
  refine (valid_digits_true r _ (by omega) (by rw [HR.out]; exact HVR.out.1)).mono ?_
  rintro e w5 ⟨rfl, hw5⟩
  obtain rfl := hw5.symm
  clear hw5 hcv
  rcases HSp.out with ⟨h1, h2, rfl, rfl⟩ | ⟨h1, h2, h3, rfl, rfl⟩ | ⟨k, grow, rfl, hkl, rfl, hr, hp⟩
  · have h0 : r.size = 0 := by rw [HRL.out, h2]; rfl
    have h0' : ((r.size : Int) == 0) = true := beq_iff_eq.2 (by omega)
    clear h0 h2
    go_wp2
    go_ret
    exact ⟨rfl, HBw.out.trans (below_drewN _ _ _)⟩
  · obtain rfl : r = s := nums_inj (by rw [HR.out, h3])
    rw [HL.out] at h1
    clear h3
    have h2' : ¬ keep < 0 := by omega
    go_wp2
    go_ret
    exact ⟨rfl, HBw.out.trans (below_drewN _ _ _)⟩
  · rw [HL.out] at hkl
    rcases HOut.out with h | h <;> exfalso <;> omega

theorem five_dig : IsDig (nums ⟨#[53]⟩) := by
  intro x hx
  have : nums ⟨#[53]⟩ = [53] := rfl
  rw [this] at hx
  simp at hx
  omega
theorem ext_size (s : ByteArray) (k : Nat) (h : k ≤ s.size) : (s.extract k s.size).size = s.size - k := by
  rw [← nums_length, nums_drop s k h, List.length_drop, nums_length]
theorem cmpV_three (xs ys : List Int) (n : Nat) : cmpV xs ys n = -1 ∨ cmpV xs ys n = 0 ∨ cmpV xs ys n = 1 := by
  unfold cmpV
  split
  · exact .inl rfl
  · split
    · exact .inr (.inr rfl)
    · exact .inr (.inl rfl)
theorem cmp_want {s : ByteArray} {k : Nat} (hv : Valid (nums s)) (hk : k < (nums s).length) (hle : k ≤ s.size) :
    let c := cmpV (nums (s.extract k s.size)) (nums ⟨#[53]⟩) (s.extract k s.size).size
    (c = -1 ∨ c = 0 ∨ c = 1) ∧ (decide (0 < c) || ((c == 0) && isOdd (nums s) k)) = goesUp (nums s) k := by
  refine ⟨cmpV_three _ _ _, want_is hv hk _ ?_⟩
  rw [ext_size s k hle, nums_drop s k hle]
  have e1 : padR ((nums s).drop k) (s.size - k) = (nums s).drop k := by
    unfold padR
    rw [List.length_drop, nums_length, Nat.sub_self]
    simp [zeros]
  have e2 : padR (nums ⟨#[53]⟩) (s.size - k) = 53 :: zeros ((nums s).length - k - 1) := by
    rw [nums_length]
    rfl
  unfold cmpV
  rw [e1, e2]
theorem is_odd (s : ByteArray) (k : Nat) (h : 0 < k) (hk : k - 1 < s.size) : isOdd (nums s) k = (((s[k - 1].toNat : Int) - 48) % 2 == 1) := by
  unfold isOdd
  rw [dg_nums s (k - 1) hk, decide_eq_true h, Bool.true_and]
theorem isOdd_zero {ds : List Int} {k : Nat} (h : k = 0) : isOdd ds k = false := by subst h; rfl
theorem dig_at (s : ByteArray) (k : Nat) (h : 0 < k) (hk : k - 1 < s.size) (hd : IsDig (nums s)) : 48 ≤ (s[k - 1].toNat : Int) ∧ (s[k - 1].toNat : Int) ≤ 57 := by
  rw [← dg_nums s (k - 1) hk]
  exact dg_dig hd (by rw [nums_length]; exact hk)
theorem sub_bo {zs : List Int} {n : Nat} {bo : Bool} {a b u : Int} (h1 : zs.length = n) (h2 : IsDig zs) (h3 : val10 zs = a - b + (if bo then 1 else 0) * 10 ^ n) (h4 : a - b = u) (h0 : 0 ≤ u) : bo = false ∧ val10 zs = u := by
  have hb := val_bounds zs h2
  rw [h1] at hb
  cases bo with
  | false => simp at h3; exact ⟨rfl, by omega⟩
  | true => simp at h3; omega

set_option maxHeartbeats 8000000 in
theorem mid_A0 (neg lg : Bool) (s : ByteArray) (pt : Int) (k : Nat) (w : World) (hs : s.size ≤ 65536) (hv : ValidDec (nums s) pt) (hkl : k < (nums s).length) (hk0 : k = 0) (hu : goesUp (nums s) k = true) (hg : ∀ rs grow, Rounded (nums s) k rs grow → grow = 1) :
    Calls Try.prog 3 #[.bool neg, .string s, .int .i64 pt, .bool lg, .int .i64 (k : Int)] w fun e w' => e = .returned (.bool true) ∧ Below w.heap.size w w' := by
  have HU : Hid _ := hu
  have HGr : Hid (∀ rs grow, Rounded (nums s) k rs grow → grow = 1) := hg
  have hkk : k < s.size := by rw [← nums_length]; exact hkl
  clear hu hg hkl
  have HK0 : Hid (k = 0) := hk0
  have hk0i : decide ((0 : Int) < (k : Int)) = false := decide_eq_false (by omega)
  have hk0n : ¬ 0 < k := by omega
  clear hk0
  have HV : Hid (ValidDec (nums s) pt) := hv
  have hpt : -10000 ≤ pt ∧ pt ≤ 10002 := by
    rcases hv.2 with ⟨_, h⟩ | ⟨_, h1, h2⟩ <;> omega
  have HL : Hid ((nums s).length = s.size) := nums_length s
  clear hv
  have hs6 : decide ((65536 : Int) < (s.size : Int)) = false := decide_eq_false (by omega)
  have hs6n : ¬ 65536 < s.size := by omega
  go_enter Try.func3, Try.ntmps3
  go_wp2_with fail
  refine (bytes_ok neg lg s pt (k : Int) w (by omega)).mono ?_
  rintro e w1 ⟨rfl, hw1⟩
  obtain rfl := hw1.symm
  clear hw1
  go_wp2_with fail
  refine (valid_dec_true s pt w (by omega) HV.out).mono ?_
  rintro e w1 ⟨rfl, hw1⟩
  obtain rfl := hw1.symm
  clear hw1
  go_wp2_with fail
  refine (make_any neg lg s pt w hs).mono ?_
  rintro e w1 ⟨n, f, long, rfl, ho, hb1, hcs⟩
  have HM := show Hid _ from made_src (neg := neg) (pt := pt) hcs
  have HB1 : Hid (Below w.heap.size w w1) := hb1
  clear hb1 hcs
  go_wp2_with (first | (refine store_last rfl (.tmp 11) (.tmp 46) rfl _ (by simp) _ rfl neg n f long pt ho rfl rfl ?_))
  obtain ⟨b0, off0, c0, HS⟩ := HM.out.2
  refine (zzround (k : Int) _ HM.out.1 ho HS HV.out.1.1 (by rw [HL.out]; exact hs) hpt).mono ?_
  rintro e w3 ⟨rfl, HO⟩
  obtain ⟨neg', pt', rs, n', f', long', b, off, c, hD, hS, hB, hSp⟩ := round_spec HO
  clear HO HS
  have HVR : Hid (Valid rs ∧ rs.length ≤ s.size + 1) := ⟨spec_valid hSp HV.out.1, by rw [← HL.out]; exact spec_length hSp HV.out.1⟩
  have HSp : Hid (Spec neg pt (nums s) (k : Int) neg' pt' rs) := hSp
  have HBw : Hid (Below w.heap.size w w3) := HB1.out.trans (((Below.refl w.heap.size w1).alloc HB1.out.size _).trans (hB.mono HB1.out.size))
  clear hSp hB
  generalize w1.heap.size = D at *
  have H : Hid (DecAt w3 D neg' n' f' long' pt' ∧ Src w3 D n' long' rs b off c) := ⟨hD, hS⟩
  clear hD hS HM HB1
  go_wp2_with fail
  refine (zzdigits H.out.1 H.out.2).mono ?_
  rintro e w4 ⟨rfl, q, hw4⟩
  subst hw4
  obtain ⟨r, HR, hcv⟩ := to_string (w := w3.drewN q) H.out.2.1 HVR.out.1.1 c
  have HRL : Hid (r.size = rs.length) := by show r.size = rs.length; rw [← HR.out, nums_length]
  go_wp2_with fail
  refine (zzneg_any D _ neg' (by exact H.out.1.cell 0)).mono ?_
  rintro e w5 ⟨rfl, hw5⟩
  obtain rfl := hw5.symm
  clear hw5
  go_wp2_with fail
  refine (zzpoint_any D _ pt' (by exact H.out.1.cell 25)).mono ?_
  rintro e w5 ⟨rfl, hw5⟩
  obtain rfl := hw5.symm
  clear hw5
  have hrs : r.size ≤ 65537 := by
    have := HRL.out
    have := HVR.out.2
    omega
  go_wp2_with fail
  refine (valid_digits_true r _ (by omega) (by rw [HR.out]; exact HVR.out.1)).mono ?_
  rintro e w5 ⟨rfl, hw5⟩
  obtain rfl := hw5.symm
  clear hw5 hcv
  obtain ⟨grow, hkl, rfl, hr, hp⟩ : ∃ grow : Nat, k < (nums s).length ∧ neg' = neg ∧ Rounded (nums s) k rs grow ∧ pt' = pt + grow := by
    rcases HSp.out with ⟨h1, _⟩ | ⟨h1, _⟩ | ⟨k', grow, e, hkl, e2, hr, hp⟩
    · exfalso; omega
    · rw [HL.out] at h1; exfalso; omega
    · obtain rfl : k = k' := by omega
      exact ⟨grow, hkl, e2, hr, hp⟩
  have HK : Hid (k < (nums s).length) := hkl
  clear hkl
  obtain rfl := HGr.out _ _ hr
  have hp1 : pt' = pt + 1 := by omega
  subst hp1
  have hpp : pt + 1 - pt = 1 := by omega
  have HRd : Hid (Rounded (nums s) k rs 1) := hr
  clear hp hr HGr hkk
  have hks : k < s.size := by have := HK.out; rw [HL.out] at this; exact this
  have e1 : (k : Int) < (s.size : Int) := by omega
  have e2 : decide ((s.size : Int) ≤ (k : Int)) = false := decide_eq_false (by omega)
  have e3 : ¬ s.size ≤ k := by omega
  have hkle : k ≤ s.size := by omega
  have HRv : Hid (rs.length ≤ (k + 1)) := (rounded_valid HV.out.1 HK.out HRd.out).2
  have HDf : Hid (val10 (padR rs (k + 1)) - val10 ((nums s).take k) = 1) := by
    have := rounded_diff HV.out.1 HK.out HRd.out
    rw [HU.out] at this
    show _ = _
    simpa [padR] using this
  have e4 : decide (((k : Int) + 1) < (r.size : Int)) = false := decide_eq_false (by have := HRv.out; have := HRL.out; omega)
  have e5 : ¬ (k + 1) < r.size := by have := HRv.out; have := HRL.out; omega
  obtain ⟨W1, hmk0, HW⟩ := make_full (w3.drewN q) (k + 1) (by omega)
  have hmk : (mk25 (.int .i64 ((k : Int) + 1)) (.int .i64 ((k : Int) + 1))).run Try.prog (w3.drewN q) = .ok (.slice (some ⟨w3.heap.size, 0, none⟩) (k + 1) (k + 1)) W1 := by simpa using hmk0
  have HB0 : Hid (Below w.heap.size w W1 ∧ Buf W1 w3.heap.size (k + 1) (fun _ => 0) ∧ w.heap.size ≤ w3.heap.size) :=
    ⟨(HBw.out.trans (below_drewN _ q _)).trans (HW.out.1.mono HBw.out.size), HW.out.2, HBw.out.size⟩
  clear hmk0 HW
  generalize w3.heap.size = g at *
  go_wp2
  go_loopw [18] (fun i wr => ∃ j : Nat, j ≤ (k + 1) ∧ i = .int .i64 j ∧ Hid (Below w.heap.size w wr ∧ ∃ F, Buf wr g (k + 1) F ∧ ∀ t, t < j → F t = orZero rs t)) (fun i _ => (k + 1) - (intOf i).toNat)
  case atStart => exact ⟨0, Nat.zero_le _, rfl, HB0.out.1, _, HB0.out.2.1, fun t h => by omega⟩
  case round =>
    obtain ⟨j, hj, rfl, HB⟩ := hrel
    by_cases hjk : j < (k + 1)
    · have hj1 : (j : Int) < ((k : Int) + 1) := by omega
      obtain ⟨x, HX⟩ : ∃ x, Hid (orZero (nums r) j = x) := ⟨_, rfl⟩
      obtain ⟨hb, F, hF, hz⟩ := HB.out
      have hc := hF.cell (i := j) hjk
      have hf := hF.fr j
      have HN : Hid (Below w.heap.size w (wr.setCell ⟨g, j, none⟩ (.int .u8 x)) ∧ ∃ F, Buf (wr.setCell ⟨g, j, none⟩ (.int .u8 x)) g (k + 1) F ∧ ∀ t, t < j + 1 → F t = orZero rs t) :=
        ⟨hb.setCell (p := ⟨g, j, none⟩) HB0.out.2.2 (.int .u8 x), upd F j x, hF.set (i := j) hjk x, fun t ht => by
          unfold upd
          by_cases e : t = j
          · subst e; rw [if_pos rfl, ← HX.out, HR.out]
          · rw [if_neg e]; exact hz t (by omega)⟩
      clear hb hF hz HB
      go_wp2_with fail
      refine (digit_or_zero r j wr (by omega)).mono ?_
      rintro e w5 ⟨rfl, hw5⟩
      obtain rfl := hw5.symm
      clear hw5
      rw [HX.out]
      go_wp2
      go_roundw
      case rel => exact ⟨j + 1, by omega, by go_num, HN.out⟩
      case measure => simp [intOf]; omega
    · obtain rfl : j = k + 1 := by omega
      clear hj hjk
      obtain ⟨hb, F, hF, hz⟩ := HB.out
      have HQ : Hid (Row8 wr g 0 (padR rs (k + 1))) := hF.row (by rw [padR_length HRv.out]; exact Nat.le_refl _) (fun i hi => by rw [padR_length HRv.out] at hi; rw [dg_padR hi]; exact hz i hi)
      have HBq : Hid (Below w.heap.size w wr) := hb
      clear hb hF hz HB
      obtain ⟨W5, c5, hcv5, hb5, hr5, hc5, hl5⟩ := conv_bytes wr (s.extract 0 k)
      have hsz : (s.extract 0 k).size = k := by rw [← nums_length, nums_take s k hkle, List.length_take, HL.out]; omega
      rw [hsz] at hcv5
      rw [nums_take s k hkle] at hr5
      have H5 : Hid (Row8 W5 wr.heap.size 0 ((nums s).take k) ∧ Row8 W5 g 0 (padR rs (k + 1)) ∧ Below w.heap.size w W5) := ⟨hr5, HQ.out.below hb5, HBq.out.trans (hb5.mono HBq.out.size)⟩
      clear hb5 hr5 hc5 hl5 hsz HQ HBq
      go_wp2_with fail
      refine (sub_at g 0 (k + 1) wr.heap.size 0 c5 (padR rs (k + 1)) ((nums s).take k) W5 (padR_length HRv.out) (by rw [List.length_take, HL.out]; omega) H5.out.2.1 H5.out.1 (padR_dig HVR.out.1.1 _) (dig_take HV.out.1.1 _) (by omega) (by omega)).mono ?_
      rintro e w6 ⟨g6, zs, bo, rfl, z1, z2, z3, z4, z5⟩
      obtain ⟨rfl, hval⟩ := sub_bo z1 z2 z5 HDf.out (by omega)
      have HB6 : Hid (Below w.heap.size w w6) := H5.out.2.2.trans (z4.mono H5.out.2.2.size)
      have HZ : Hid (∀ i, i < (k + 1) → w6.cell? ⟨g6, i, none⟩ = some (.int .u8 (if i + 1 = (k + 1) then 49 else 48))) := fun i hi => by
        have h1 := z3 i (by omega)
        rw [Nat.zero_add] at h1
        rw [h1, val_one_all zs z2 hval i (by omega), z1]
      clear z1 z2 z3 z4 z5 hval H5
      go_wp2
      go_loop [22] (fun i => ∃ j : Nat, j ≤ (k + 1) ∧ i = .int .i64 j) (fun i => (k + 1) - (intOf i).toNat)
      case atStart => exact ⟨0, Nat.zero_le _, rfl⟩
      case round =>
        obtain ⟨j, hj, rfl⟩ := hrel
        by_cases hjk : j + 1 < (k + 1)
        · have hcj : w6.cell? ⟨g6, j, none⟩ = some (.int .u8 48) := by rw [HZ.out j (by omega), if_neg (by omega)]
          have hj1 : (j : Int) + 1 < ((k : Int) + 1) := by omega
          go_wp2
          go_round
          case rel => exact ⟨j + 1, by omega, by go_num⟩
          case measure => simp [intOf]; omega
        · have hj1 : decide ((j : Int) + 1 < ((k : Int) + 1)) = false := decide_eq_false (by omega)
          have hcl : w6.cell? ⟨g6, k, none⟩ = some (.int .u8 49) := by rw [HZ.out k (by omega), if_pos (by omega)]
          go_wp2_with fail
          refine (cmp_le (s.extract k s.size) ⟨#[53]⟩ w6 (by rw [nums_drop s k hkle]; exact dig_drop HV.out.1.1 _) five_dig (by have := ext_size s k hkle; show 1 ≤ _; omega) (by have := ext_size s k hkle; omega)).mono ?_
          rintro e w7 ⟨rfl, hw7⟩
          obtain rfl := hw7.symm
          clear hw7
          obtain ⟨cv, ecv, hc3, hcw⟩ : ∃ cv, cmpV (nums (s.extract k s.size)) (nums ⟨#[53]⟩) (s.extract k s.size).size = cv ∧ (cv = -1 ∨ cv = 0 ∨ cv = 1) ∧ (decide (0 < cv) || ((cv == 0) && isOdd (nums s) k)) = goesUp (nums s) k := ⟨_, rfl, cmp_want HV.out.1 HK.out hkle⟩
          rw [ecv]
          rw [HU.out] at hcw
          have HCW : Hid _ := hcw
          clear ecv hcw
          rcases hc3 with rfl | rfl | rfl
          · have := HCW.out
            simp at this
          · have := HCW.out
            rw [isOdd_zero HK0.out] at this
            simp at this
          · go_wp2
            go_ret
            exact ⟨rfl, HB6.out⟩

set_option maxHeartbeats 8000000 in
theorem mid_A1 (neg lg : Bool) (s : ByteArray) (pt : Int) (k : Nat) (w : World) (hs : s.size ≤ 65536) (hv : ValidDec (nums s) pt) (hkl : k < (nums s).length) (hk0 : 0 < k) (hu : goesUp (nums s) k = true) (hg : ∀ rs grow, Rounded (nums s) k rs grow → grow = 1) :
    Calls Try.prog 3 #[.bool neg, .string s, .int .i64 pt, .bool lg, .int .i64 (k : Int)] w fun e w' => e = .returned (.bool true) ∧ Below w.heap.size w w' := by
  have HU : Hid _ := hu
  have HGr : Hid (∀ rs grow, Rounded (nums s) k rs grow → grow = 1) := hg
  have hkk : k < s.size := by rw [← nums_length]; exact hkl
  clear hu hg hkl
  have HV : Hid (ValidDec (nums s) pt) := hv
  have hpt : -10000 ≤ pt ∧ pt ≤ 10002 := by
    rcases hv.2 with ⟨_, h⟩ | ⟨_, h1, h2⟩ <;> omega
  have HL : Hid ((nums s).length = s.size) := nums_length s
  clear hv
  have hs6 : decide ((65536 : Int) < (s.size : Int)) = false := decide_eq_false (by omega)
  have hs6n : ¬ 65536 < s.size := by omega
  go_enter Try.func3, Try.ntmps3
  go_wp2_with fail
  refine (bytes_ok neg lg s pt (k : Int) w (by omega)).mono ?_
  rintro e w1 ⟨rfl, hw1⟩
  obtain rfl := hw1.symm
  clear hw1
  go_wp2_with fail
  refine (valid_dec_true s pt w (by omega) HV.out).mono ?_
  rintro e w1 ⟨rfl, hw1⟩
  obtain rfl := hw1.symm
  clear hw1
  go_wp2_with fail
  refine (make_any neg lg s pt w hs).mono ?_
  rintro e w1 ⟨n, f, long, rfl, ho, hb1, hcs⟩
  have HM := show Hid _ from made_src (neg := neg) (pt := pt) hcs
  have HB1 : Hid (Below w.heap.size w w1) := hb1
  clear hb1 hcs
  go_wp2_with (first | (refine store_last rfl (.tmp 11) (.tmp 46) rfl _ (by simp) _ rfl neg n f long pt ho rfl rfl ?_))
  obtain ⟨b0, off0, c0, HS⟩ := HM.out.2
  refine (zzround (k : Int) _ HM.out.1 ho HS HV.out.1.1 (by rw [HL.out]; exact hs) hpt).mono ?_
  rintro e w3 ⟨rfl, HO⟩
  obtain ⟨neg', pt', rs, n', f', long', b, off, c, hD, hS, hB, hSp⟩ := round_spec HO
  clear HO HS
  have HVR : Hid (Valid rs ∧ rs.length ≤ s.size + 1) := ⟨spec_valid hSp HV.out.1, by rw [← HL.out]; exact spec_length hSp HV.out.1⟩
  have HSp : Hid (Spec neg pt (nums s) (k : Int) neg' pt' rs) := hSp
  have HBw : Hid (Below w.heap.size w w3) := HB1.out.trans (((Below.refl w.heap.size w1).alloc HB1.out.size _).trans (hB.mono HB1.out.size))
  clear hSp hB
  generalize w1.heap.size = D at *
  have H : Hid (DecAt w3 D neg' n' f' long' pt' ∧ Src w3 D n' long' rs b off c) := ⟨hD, hS⟩
  clear hD hS HM HB1
  go_wp2_with fail
  refine (zzdigits H.out.1 H.out.2).mono ?_
  rintro e w4 ⟨rfl, q, hw4⟩
  subst hw4
  obtain ⟨r, HR, hcv⟩ := to_string (w := w3.drewN q) H.out.2.1 HVR.out.1.1 c
  have HRL : Hid (r.size = rs.length) := by show r.size = rs.length; rw [← HR.out, nums_length]
  go_wp2_with fail
  refine (zzneg_any D _ neg' (by exact H.out.1.cell 0)).mono ?_
  rintro e w5 ⟨rfl, hw5⟩
  obtain rfl := hw5.symm
  clear hw5
  go_wp2_with fail
  refine (zzpoint_any D _ pt' (by exact H.out.1.cell 25)).mono ?_
  rintro e w5 ⟨rfl, hw5⟩
  obtain rfl := hw5.symm
  clear hw5
  have hrs : r.size ≤ 65537 := by
    have := HRL.out
    have := HVR.out.2
    omega
  go_wp2_with fail
  refine (valid_digits_true r _ (by omega) (by rw [HR.out]; exact HVR.out.1)).mono ?_
  rintro e w5 ⟨rfl, hw5⟩
  obtain rfl := hw5.symm
  clear hw5 hcv
  obtain ⟨grow, hkl, rfl, hr, hp⟩ : ∃ grow : Nat, k < (nums s).length ∧ neg' = neg ∧ Rounded (nums s) k rs grow ∧ pt' = pt + grow := by
    rcases HSp.out with ⟨h1, _⟩ | ⟨h1, _⟩ | ⟨k', grow, e, hkl, e2, hr, hp⟩
    · exfalso; omega
    · rw [HL.out] at h1; exfalso; omega
    · obtain rfl : k = k' := by omega
      exact ⟨grow, hkl, e2, hr, hp⟩
  have HK : Hid (k < (nums s).length) := hkl
  clear hkl
  obtain rfl := HGr.out _ _ hr
  have hp1 : pt' = pt + 1 := by omega
  subst hp1
  have hpp : pt + 1 - pt = 1 := by omega
  have HRd : Hid (Rounded (nums s) k rs 1) := hr
  clear hp hr HGr hkk
  have hks : k < s.size := by have := HK.out; rw [HL.out] at this; exact this
  have e1 : (k : Int) < (s.size : Int) := by omega
  have e2 : decide ((s.size : Int) ≤ (k : Int)) = false := decide_eq_false (by omega)
  have e3 : ¬ s.size ≤ k := by omega
  have hkle : k ≤ s.size := by omega
  have HRv : Hid (rs.length ≤ (k + 1)) := (rounded_valid HV.out.1 HK.out HRd.out).2
  have HDf : Hid (val10 (padR rs (k + 1)) - val10 ((nums s).take k) = 1) := by
    have := rounded_diff HV.out.1 HK.out HRd.out
    rw [HU.out] at this
    show _ = _
    simpa [padR] using this
  have e4 : decide (((k : Int) + 1) < (r.size : Int)) = false := decide_eq_false (by have := HRv.out; have := HRL.out; omega)
  have e5 : ¬ (k + 1) < r.size := by have := HRv.out; have := HRL.out; omega
  obtain ⟨W1, hmk0, HW⟩ := make_full (w3.drewN q) (k + 1) (by omega)
  have hmk : (mk25 (.int .i64 ((k : Int) + 1)) (.int .i64 ((k : Int) + 1))).run Try.prog (w3.drewN q) = .ok (.slice (some ⟨w3.heap.size, 0, none⟩) (k + 1) (k + 1)) W1 := by simpa using hmk0
  have HB0 : Hid (Below w.heap.size w W1 ∧ Buf W1 w3.heap.size (k + 1) (fun _ => 0) ∧ w.heap.size ≤ w3.heap.size) :=
    ⟨(HBw.out.trans (below_drewN _ q _)).trans (HW.out.1.mono HBw.out.size), HW.out.2, HBw.out.size⟩
  clear hmk0 HW
  generalize w3.heap.size = g at *
  go_wp2
  go_loopw [18] (fun i wr => ∃ j : Nat, j ≤ (k + 1) ∧ i = .int .i64 j ∧ Hid (Below w.heap.size w wr ∧ ∃ F, Buf wr g (k + 1) F ∧ ∀ t, t < j → F t = orZero rs t)) (fun i _ => (k + 1) - (intOf i).toNat)
  case atStart => exact ⟨0, Nat.zero_le _, rfl, HB0.out.1, _, HB0.out.2.1, fun t h => by omega⟩
  case round =>
    obtain ⟨j, hj, rfl, HB⟩ := hrel
    by_cases hjk : j < (k + 1)
    · have hj1 : (j : Int) < ((k : Int) + 1) := by omega
      obtain ⟨x, HX⟩ : ∃ x, Hid (orZero (nums r) j = x) := ⟨_, rfl⟩
      obtain ⟨hb, F, hF, hz⟩ := HB.out
      have hc := hF.cell (i := j) hjk
      have hf := hF.fr j
      have HN : Hid (Below w.heap.size w (wr.setCell ⟨g, j, none⟩ (.int .u8 x)) ∧ ∃ F, Buf (wr.setCell ⟨g, j, none⟩ (.int .u8 x)) g (k + 1) F ∧ ∀ t, t < j + 1 → F t = orZero rs t) :=
        ⟨hb.setCell (p := ⟨g, j, none⟩) HB0.out.2.2 (.int .u8 x), upd F j x, hF.set (i := j) hjk x, fun t ht => by
          unfold upd
          by_cases e : t = j
          · subst e; rw [if_pos rfl, ← HX.out, HR.out]
          · rw [if_neg e]; exact hz t (by omega)⟩
      clear hb hF hz HB
      go_wp2_with fail
      refine (digit_or_zero r j wr (by omega)).mono ?_
      rintro e w5 ⟨rfl, hw5⟩
      obtain rfl := hw5.symm
      clear hw5
      rw [HX.out]
      go_wp2
      go_roundw
      case rel => exact ⟨j + 1, by omega, by go_num, HN.out⟩
      case measure => simp [intOf]; omega
    · obtain rfl : j = k + 1 := by omega
      clear hj hjk
      obtain ⟨hb, F, hF, hz⟩ := HB.out
      have HQ : Hid (Row8 wr g 0 (padR rs (k + 1))) := hF.row (by rw [padR_length HRv.out]; exact Nat.le_refl _) (fun i hi => by rw [padR_length HRv.out] at hi; rw [dg_padR hi]; exact hz i hi)
      have HBq : Hid (Below w.heap.size w wr) := hb
      clear hb hF hz HB
      obtain ⟨W5, c5, hcv5, hb5, hr5, hc5, hl5⟩ := conv_bytes wr (s.extract 0 k)
      have hsz : (s.extract 0 k).size = k := by rw [← nums_length, nums_take s k hkle, List.length_take, HL.out]; omega
      rw [hsz] at hcv5
      rw [nums_take s k hkle] at hr5
      have H5 : Hid (Row8 W5 wr.heap.size 0 ((nums s).take k) ∧ Row8 W5 g 0 (padR rs (k + 1)) ∧ Below w.heap.size w W5) := ⟨hr5, HQ.out.below hb5, HBq.out.trans (hb5.mono HBq.out.size)⟩
      clear hb5 hr5 hc5 hl5 hsz HQ HBq
      go_wp2_with fail
      refine (sub_at g 0 (k + 1) wr.heap.size 0 c5 (padR rs (k + 1)) ((nums s).take k) W5 (padR_length HRv.out) (by rw [List.length_take, HL.out]; omega) H5.out.2.1 H5.out.1 (padR_dig HVR.out.1.1 _) (dig_take HV.out.1.1 _) (by omega) (by omega)).mono ?_
      rintro e w6 ⟨g6, zs, bo, rfl, z1, z2, z3, z4, z5⟩
      obtain ⟨rfl, hval⟩ := sub_bo z1 z2 z5 HDf.out (by omega)
      have HB6 : Hid (Below w.heap.size w w6) := H5.out.2.2.trans (z4.mono H5.out.2.2.size)
      have HZ : Hid (∀ i, i < (k + 1) → w6.cell? ⟨g6, i, none⟩ = some (.int .u8 (if i + 1 = (k + 1) then 49 else 48))) := fun i hi => by
        have h1 := z3 i (by omega)
        rw [Nat.zero_add] at h1
        rw [h1, val_one_all zs z2 hval i (by omega), z1]
      clear z1 z2 z3 z4 z5 hval H5
      go_wp2
      go_loop [22] (fun i => ∃ j : Nat, j ≤ (k + 1) ∧ i = .int .i64 j) (fun i => (k + 1) - (intOf i).toNat)
      case atStart => exact ⟨0, Nat.zero_le _, rfl⟩
      case round =>
        obtain ⟨j, hj, rfl⟩ := hrel
        by_cases hjk : j + 1 < (k + 1)
        · have hcj : w6.cell? ⟨g6, j, none⟩ = some (.int .u8 48) := by rw [HZ.out j (by omega), if_neg (by omega)]
          have hj1 : (j : Int) + 1 < ((k : Int) + 1) := by omega
          go_wp2
          go_round
          case rel => exact ⟨j + 1, by omega, by go_num⟩
          case measure => simp [intOf]; omega
        · have hj1 : decide ((j : Int) + 1 < ((k : Int) + 1)) = false := decide_eq_false (by omega)
          have hcl : w6.cell? ⟨g6, k, none⟩ = some (.int .u8 49) := by rw [HZ.out k (by omega), if_pos (by omega)]
          go_wp2_with fail
          have hyb := dig_at s k hk0 (by omega) HV.out.1.1
          have hki : (0 : Int) < (k : Int) := by omega
          have hk1s : k - 1 < s.size := by omega
          refine (cmp_le (s.extract k s.size) ⟨#[53]⟩ w6 (by rw [nums_drop s k hkle]; exact dig_drop HV.out.1.1 _) five_dig (by have := ext_size s k hkle; show 1 ≤ _; omega) (by have := ext_size s k hkle; omega)).mono ?_
          rintro e w7 ⟨rfl, hw7⟩
          obtain rfl := hw7.symm
          clear hw7
          obtain ⟨cv, ecv, hc3, hcw⟩ : ∃ cv, cmpV (nums (s.extract k s.size)) (nums ⟨#[53]⟩) (s.extract k s.size).size = cv ∧ (cv = -1 ∨ cv = 0 ∨ cv = 1) ∧ (decide (0 < cv) || ((cv == 0) && isOdd (nums s) k)) = goesUp (nums s) k := ⟨_, rfl, cmp_want HV.out.1 HK.out hkle⟩
          rw [ecv]
          rw [HU.out] at hcw
          have HCW : Hid _ := hcw
          clear ecv hcw
          rcases hc3 with rfl | rfl | rfl
          · have := HCW.out
            simp at this
          · have hodd : (((s[k - 1].toNat : Int) - 48) % 2 == 1) = true := by
              have := HCW.out
              rw [is_odd s k hk0 (by omega)] at this
              simpa using this
            go_wp2
            go_ret
            exact ⟨rfl, HB6.out⟩
          · go_wp2
            go_ret
            exact ⟨rfl, HB6.out⟩

set_option maxHeartbeats 8000000 in
theorem mid_B (neg lg : Bool) (s : ByteArray) (pt : Int) (k : Nat) (w : World) (hs : s.size ≤ 65536) (hv : ValidDec (nums s) pt) (hkl : k < (nums s).length) (hk0 : 0 < k) (hu : goesUp (nums s) k = true) (hg : ∀ rs grow, Rounded (nums s) k rs grow → grow = 0) :
    Calls Try.prog 3 #[.bool neg, .string s, .int .i64 pt, .bool lg, .int .i64 (k : Int)] w fun e w' => e = .returned (.bool true) ∧ Below w.heap.size w w' := by
  have HU : Hid _ := hu
  have HGr : Hid (∀ rs grow, Rounded (nums s) k rs grow → grow = 0) := hg
  have hkk : k < s.size := by rw [← nums_length]; exact hkl
  clear hu hg hkl
  have HV : Hid (ValidDec (nums s) pt) := hv
  have hpt : -10000 ≤ pt ∧ pt ≤ 10002 := by
    rcases hv.2 with ⟨_, h⟩ | ⟨_, h1, h2⟩ <;> omega
  have HL : Hid ((nums s).length = s.size) := nums_length s
  clear hv
  have hs6 : decide ((65536 : Int) < (s.size : Int)) = false := decide_eq_false (by omega)
  have hs6n : ¬ 65536 < s.size := by omega
  go_enter Try.func3, Try.ntmps3
  go_wp2_with fail
  refine (bytes_ok neg lg s pt (k : Int) w (by omega)).mono ?_
  rintro e w1 ⟨rfl, hw1⟩
  obtain rfl := hw1.symm
  clear hw1
  go_wp2_with fail
  refine (valid_dec_true s pt w (by omega) HV.out).mono ?_
  rintro e w1 ⟨rfl, hw1⟩
  obtain rfl := hw1.symm
  clear hw1
  go_wp2_with fail
  refine (make_any neg lg s pt w hs).mono ?_
  rintro e w1 ⟨n, f, long, rfl, ho, hb1, hcs⟩
  have HM := show Hid _ from made_src (neg := neg) (pt := pt) hcs
  have HB1 : Hid (Below w.heap.size w w1) := hb1
  clear hb1 hcs
  go_wp2_with (first | (refine store_last rfl (.tmp 11) (.tmp 46) rfl _ (by simp) _ rfl neg n f long pt ho rfl rfl ?_))
  obtain ⟨b0, off0, c0, HS⟩ := HM.out.2
  refine (zzround (k : Int) _ HM.out.1 ho HS HV.out.1.1 (by rw [HL.out]; exact hs) hpt).mono ?_
  rintro e w3 ⟨rfl, HO⟩
  obtain ⟨neg', pt', rs, n', f', long', b, off, c, hD, hS, hB, hSp⟩ := round_spec HO
  clear HO HS
  have HVR : Hid (Valid rs ∧ rs.length ≤ s.size + 1) := ⟨spec_valid hSp HV.out.1, by rw [← HL.out]; exact spec_length hSp HV.out.1⟩
  have HSp : Hid (Spec neg pt (nums s) (k : Int) neg' pt' rs) := hSp
  have HBw : Hid (Below w.heap.size w w3) := HB1.out.trans (((Below.refl w.heap.size w1).alloc HB1.out.size _).trans (hB.mono HB1.out.size))
  clear hSp hB
  generalize w1.heap.size = D at *
  have H : Hid (DecAt w3 D neg' n' f' long' pt' ∧ Src w3 D n' long' rs b off c) := ⟨hD, hS⟩
  clear hD hS HM HB1
  go_wp2_with fail
  refine (zzdigits H.out.1 H.out.2).mono ?_
  rintro e w4 ⟨rfl, q, hw4⟩
  subst hw4
  obtain ⟨r, HR, hcv⟩ := to_string (w := w3.drewN q) H.out.2.1 HVR.out.1.1 c
  have HRL : Hid (r.size = rs.length) := by show r.size = rs.length; rw [← HR.out, nums_length]
  go_wp2_with fail
  refine (zzneg_any D _ neg' (by exact H.out.1.cell 0)).mono ?_
  rintro e w5 ⟨rfl, hw5⟩
  obtain rfl := hw5.symm
  clear hw5
  go_wp2_with fail
  refine (zzpoint_any D _ pt' (by exact H.out.1.cell 25)).mono ?_
  rintro e w5 ⟨rfl, hw5⟩
  obtain rfl := hw5.symm
  clear hw5
  have hrs : r.size ≤ 65537 := by
    have := HRL.out
    have := HVR.out.2
    omega
  go_wp2_with fail
  refine (valid_digits_true r _ (by omega) (by rw [HR.out]; exact HVR.out.1)).mono ?_
  rintro e w5 ⟨rfl, hw5⟩
  obtain rfl := hw5.symm
  clear hw5 hcv
  obtain ⟨grow, hkl, rfl, hr, hp⟩ : ∃ grow : Nat, k < (nums s).length ∧ neg' = neg ∧ Rounded (nums s) k rs grow ∧ pt' = pt + grow := by
    rcases HSp.out with ⟨h1, _⟩ | ⟨h1, _⟩ | ⟨k', grow, e, hkl, e2, hr, hp⟩
    · exfalso; omega
    · rw [HL.out] at h1; exfalso; omega
    · obtain rfl : k = k' := by omega
      exact ⟨grow, hkl, e2, hr, hp⟩
  have HK : Hid (k < (nums s).length) := hkl
  clear hkl
  obtain rfl := HGr.out _ _ hr
  have hp1 : pt = pt' := by omega
  subst hp1
  have hpp : pt - pt = 0 := by omega
  have HRd : Hid (Rounded (nums s) k rs 0) := hr
  clear hp hr HGr hkk
  have hks : k < s.size := by have := HK.out; rw [HL.out] at this; exact this
  have e1 : (k : Int) < (s.size : Int) := by omega
  have e2 : decide ((s.size : Int) ≤ (k : Int)) = false := decide_eq_false (by omega)
  have e3 : ¬ s.size ≤ k := by omega
  have hkle : k ≤ s.size := by omega
  have HRv : Hid (rs.length ≤ k) := (rounded_valid HV.out.1 HK.out HRd.out).2
  have HDf : Hid (val10 (padR rs k) - val10 ((nums s).take k) = 1) := by
    have := rounded_diff HV.out.1 HK.out HRd.out
    rw [HU.out] at this
    show _ = _
    simpa [padR] using this
  have e4 : decide ((k : Int) < (r.size : Int)) = false := decide_eq_false (by have := HRv.out; have := HRL.out; omega)
  have e5 : ¬ k < r.size := by have := HRv.out; have := HRL.out; omega
  obtain ⟨W1, hmk0, HW⟩ := make_full (w3.drewN q) k (by omega)
  have hmk : (mk25 (.int .i64 (k : Int)) (.int .i64 (k : Int))).run Try.prog (w3.drewN q) = .ok (.slice (some ⟨w3.heap.size, 0, none⟩) k k) W1 := by simpa using hmk0
  have HB0 : Hid (Below w.heap.size w W1 ∧ Buf W1 w3.heap.size k (fun _ => 0) ∧ w.heap.size ≤ w3.heap.size) :=
    ⟨(HBw.out.trans (below_drewN _ q _)).trans (HW.out.1.mono HBw.out.size), HW.out.2, HBw.out.size⟩
  clear hmk0 HW
  generalize w3.heap.size = g at *
  go_wp2
  go_loopw [18] (fun i wr => ∃ j : Nat, j ≤ k ∧ i = .int .i64 j ∧ Hid (Below w.heap.size w wr ∧ ∃ F, Buf wr g k F ∧ ∀ t, t < j → F t = orZero rs t)) (fun i _ => k - (intOf i).toNat)
  case atStart => exact ⟨0, Nat.zero_le _, rfl, HB0.out.1, _, HB0.out.2.1, fun t h => by omega⟩
  case round =>
    obtain ⟨j, hj, rfl, HB⟩ := hrel
    by_cases hjk : j < k
    · have hj1 : (j : Int) < (k : Int) := by omega
      obtain ⟨x, HX⟩ : ∃ x, Hid (orZero (nums r) j = x) := ⟨_, rfl⟩
      obtain ⟨hb, F, hF, hz⟩ := HB.out
      have hc := hF.cell (i := j) hjk
      have hf := hF.fr j
      have HN : Hid (Below w.heap.size w (wr.setCell ⟨g, j, none⟩ (.int .u8 x)) ∧ ∃ F, Buf (wr.setCell ⟨g, j, none⟩ (.int .u8 x)) g k F ∧ ∀ t, t < j + 1 → F t = orZero rs t) :=
        ⟨hb.setCell (p := ⟨g, j, none⟩) HB0.out.2.2 (.int .u8 x), upd F j x, hF.set (i := j) hjk x, fun t ht => by
          unfold upd
          by_cases e : t = j
          · subst e; rw [if_pos rfl, ← HX.out, HR.out]
          · rw [if_neg e]; exact hz t (by omega)⟩
      clear hb hF hz HB
      go_wp2_with fail
      refine (digit_or_zero r j wr (by omega)).mono ?_
      rintro e w5 ⟨rfl, hw5⟩
      obtain rfl := hw5.symm
      clear hw5
      rw [HX.out]
      go_wp2
      go_roundw
      case rel => exact ⟨j + 1, by omega, by go_num, HN.out⟩
      case measure => simp [intOf]; omega
    · obtain rfl : k = j := by omega
      clear hj hjk
      obtain ⟨hb, F, hF, hz⟩ := HB.out
      have HQ : Hid (Row8 wr g 0 (padR rs k)) := hF.row (by rw [padR_length HRv.out]; exact Nat.le_refl _) (fun i hi => by rw [padR_length HRv.out] at hi; rw [dg_padR hi]; exact hz i hi)
      have HBq : Hid (Below w.heap.size w wr) := hb
      clear hb hF hz HB
      obtain ⟨W5, c5, hcv5, hb5, hr5, hc5, hl5⟩ := conv_bytes wr (s.extract 0 k)
      have hsz : (s.extract 0 k).size = k := by rw [← nums_length, nums_take s k hkle, List.length_take, HL.out]; omega
      rw [hsz] at hcv5
      rw [nums_take s k hkle] at hr5
      have H5 : Hid (Row8 W5 wr.heap.size 0 ((nums s).take k) ∧ Row8 W5 g 0 (padR rs k) ∧ Below w.heap.size w W5) := ⟨hr5, HQ.out.below hb5, HBq.out.trans (hb5.mono HBq.out.size)⟩
      clear hb5 hr5 hc5 hl5 hsz HQ HBq
      go_wp2_with fail
      refine (sub_at g 0 k wr.heap.size 0 c5 (padR rs k) ((nums s).take k) W5 (padR_length HRv.out) (by rw [List.length_take, HL.out]; omega) H5.out.2.1 H5.out.1 (padR_dig HVR.out.1.1 _) (dig_take HV.out.1.1 _) (by omega) (by omega)).mono ?_
      rintro e w6 ⟨g6, zs, bo, rfl, z1, z2, z3, z4, z5⟩
      obtain ⟨rfl, hval⟩ := sub_bo z1 z2 z5 HDf.out (by omega)
      have HB6 : Hid (Below w.heap.size w w6) := H5.out.2.2.trans (z4.mono H5.out.2.2.size)
      have HZ : Hid (∀ i, i < k → w6.cell? ⟨g6, i, none⟩ = some (.int .u8 (if i + 1 = k then 49 else 48))) := fun i hi => by
        have h1 := z3 i (by omega)
        rw [Nat.zero_add] at h1
        rw [h1, val_one_all zs z2 hval i (by omega), z1]
      clear z1 z2 z3 z4 z5 hval H5
      go_wp2
      go_loop [22] (fun i => ∃ j : Nat, j ≤ k ∧ i = .int .i64 j) (fun i => k - (intOf i).toNat)
      case atStart => exact ⟨0, Nat.zero_le _, rfl⟩
      case round =>
        obtain ⟨j, hj, rfl⟩ := hrel
        by_cases hjk : j + 1 < k
        · have hcj : w6.cell? ⟨g6, j, none⟩ = some (.int .u8 48) := by rw [HZ.out j (by omega), if_neg (by omega)]
          have hj1 : (j : Int) + 1 < (k : Int) := by omega
          go_wp2
          go_round
          case rel => exact ⟨j + 1, by omega, by go_num⟩
          case measure => simp [intOf]; omega
        · have hj1 : decide ((j : Int) + 1 < (k : Int)) = false := decide_eq_false (by omega)
          have hcl : w6.cell? ⟨g6, (k - 1), none⟩ = some (.int .u8 49) := by rw [HZ.out (k - 1) (by omega), if_pos (by omega)]
          go_wp2_with fail
          have hyb := dig_at s k hk0 (by omega) HV.out.1.1
          have hki : (0 : Int) < (k : Int) := by omega
          have hk1s : k - 1 < s.size := by omega
          refine (cmp_le (s.extract k s.size) ⟨#[53]⟩ w6 (by rw [nums_drop s k hkle]; exact dig_drop HV.out.1.1 _) five_dig (by have := ext_size s k hkle; show 1 ≤ _; omega) (by have := ext_size s k hkle; omega)).mono ?_
          rintro e w7 ⟨rfl, hw7⟩
          obtain rfl := hw7.symm
          clear hw7
          obtain ⟨cv, ecv, hc3, hcw⟩ : ∃ cv, cmpV (nums (s.extract k s.size)) (nums ⟨#[53]⟩) (s.extract k s.size).size = cv ∧ (cv = -1 ∨ cv = 0 ∨ cv = 1) ∧ (decide (0 < cv) || ((cv == 0) && isOdd (nums s) k)) = goesUp (nums s) k := ⟨_, rfl, cmp_want HV.out.1 HK.out hkle⟩
          rw [ecv]
          rw [HU.out] at hcw
          have HCW : Hid _ := hcw
          clear ecv hcw
          rcases hc3 with rfl | rfl | rfl
          · have := HCW.out
            simp at this
          · have hodd : (((s[k - 1].toNat : Int) - 48) % 2 == 1) = true := by
              have := HCW.out
              rw [is_odd s k hk0 (by omega)] at this
              simpa using this
            go_wp2
            go_ret
            exact ⟨rfl, HB6.out⟩
          · go_wp2
            go_ret
            exact ⟨rfl, HB6.out⟩

set_option maxHeartbeats 8000000 in
theorem mid_C0 (neg lg : Bool) (s : ByteArray) (pt : Int) (k : Nat) (w : World) (hs : s.size ≤ 65536) (hv : ValidDec (nums s) pt) (hkl : k < (nums s).length) (hk0 : k = 0) (hu : goesUp (nums s) k = false) (hg : ∀ rs grow, Rounded (nums s) k rs grow → grow = 0) :
    Calls Try.prog 3 #[.bool neg, .string s, .int .i64 pt, .bool lg, .int .i64 (k : Int)] w fun e w' => e = .returned (.bool true) ∧ Below w.heap.size w w' := by
  have HU : Hid _ := hu
  have HGr : Hid (∀ rs grow, Rounded (nums s) k rs grow → grow = 0) := hg
  have hkk : k < s.size := by rw [← nums_length]; exact hkl
  clear hu hg hkl
  have HK0 : Hid (k = 0) := hk0
  have hk0i : decide ((0 : Int) < (k : Int)) = false := decide_eq_false (by omega)
  have hk0n : ¬ 0 < k := by omega
  clear hk0
  have HV : Hid (ValidDec (nums s) pt) := hv
  have hpt : -10000 ≤ pt ∧ pt ≤ 10002 := by
    rcases hv.2 with ⟨_, h⟩ | ⟨_, h1, h2⟩ <;> omega
  have HL : Hid ((nums s).length = s.size) := nums_length s
  clear hv
  have hs6 : decide ((65536 : Int) < (s.size : Int)) = false := decide_eq_false (by omega)
  have hs6n : ¬ 65536 < s.size := by omega
  go_enter Try.func3, Try.ntmps3
  go_wp2_with fail
  refine (bytes_ok neg lg s pt (k : Int) w (by omega)).mono ?_
  rintro e w1 ⟨rfl, hw1⟩
  obtain rfl := hw1.symm
  clear hw1
  go_wp2_with fail
  refine (valid_dec_true s pt w (by omega) HV.out).mono ?_
  rintro e w1 ⟨rfl, hw1⟩
  obtain rfl := hw1.symm
  clear hw1
  go_wp2_with fail
  refine (make_any neg lg s pt w hs).mono ?_
  rintro e w1 ⟨n, f, long, rfl, ho, hb1, hcs⟩
  have HM := show Hid _ from made_src (neg := neg) (pt := pt) hcs
  have HB1 : Hid (Below w.heap.size w w1) := hb1
  clear hb1 hcs
  go_wp2_with (first | (refine store_last rfl (.tmp 11) (.tmp 46) rfl _ (by simp) _ rfl neg n f long pt ho rfl rfl ?_))
  obtain ⟨b0, off0, c0, HS⟩ := HM.out.2
  refine (zzround (k : Int) _ HM.out.1 ho HS HV.out.1.1 (by rw [HL.out]; exact hs) hpt).mono ?_
  rintro e w3 ⟨rfl, HO⟩
  obtain ⟨neg', pt', rs, n', f', long', b, off, c, hD, hS, hB, hSp⟩ := round_spec HO
  clear HO HS
  have HVR : Hid (Valid rs ∧ rs.length ≤ s.size + 1) := ⟨spec_valid hSp HV.out.1, by rw [← HL.out]; exact spec_length hSp HV.out.1⟩
  have HSp : Hid (Spec neg pt (nums s) (k : Int) neg' pt' rs) := hSp
  have HBw : Hid (Below w.heap.size w w3) := HB1.out.trans (((Below.refl w.heap.size w1).alloc HB1.out.size _).trans (hB.mono HB1.out.size))
  clear hSp hB
  generalize w1.heap.size = D at *
  have H : Hid (DecAt w3 D neg' n' f' long' pt' ∧ Src w3 D n' long' rs b off c) := ⟨hD, hS⟩
  clear hD hS HM HB1
  go_wp2_with fail
  refine (zzdigits H.out.1 H.out.2).mono ?_
  rintro e w4 ⟨rfl, q, hw4⟩
  subst hw4
  obtain ⟨r, HR, hcv⟩ := to_string (w := w3.drewN q) H.out.2.1 HVR.out.1.1 c
  have HRL : Hid (r.size = rs.length) := by show r.size = rs.length; rw [← HR.out, nums_length]
  go_wp2_with fail
  refine (zzneg_any D _ neg' (by exact H.out.1.cell 0)).mono ?_
  rintro e w5 ⟨rfl, hw5⟩
  obtain rfl := hw5.symm
  clear hw5
  go_wp2_with fail
  refine (zzpoint_any D _ pt' (by exact H.out.1.cell 25)).mono ?_
  rintro e w5 ⟨rfl, hw5⟩
  obtain rfl := hw5.symm
  clear hw5
  have hrs : r.size ≤ 65537 := by
    have := HRL.out
    have := HVR.out.2
    omega
  go_wp2_with fail
  refine (valid_digits_true r _ (by omega) (by rw [HR.out]; exact HVR.out.1)).mono ?_
  rintro e w5 ⟨rfl, hw5⟩
  obtain rfl := hw5.symm
  clear hw5 hcv
  obtain ⟨grow, hkl, rfl, hr, hp⟩ : ∃ grow : Nat, k < (nums s).length ∧ neg' = neg ∧ Rounded (nums s) k rs grow ∧ pt' = pt + grow := by
    rcases HSp.out with ⟨h1, _⟩ | ⟨h1, _⟩ | ⟨k', grow, e, hkl, e2, hr, hp⟩
    · exfalso; omega
    · rw [HL.out] at h1; exfalso; omega
    · obtain rfl : k = k' := by omega
      exact ⟨grow, hkl, e2, hr, hp⟩
  have HK : Hid (k < (nums s).length) := hkl
  clear hkl
  obtain rfl := HGr.out _ _ hr
  have hp1 : pt = pt' := by omega
  subst hp1
  have hpp : pt - pt = 0 := by omega
  have HRd : Hid (Rounded (nums s) k rs 0) := hr
  clear hp hr HGr hkk
  have hks : k < s.size := by have := HK.out; rw [HL.out] at this; exact this
  have e1 : (k : Int) < (s.size : Int) := by omega
  have e2 : decide ((s.size : Int) ≤ (k : Int)) = false := decide_eq_false (by omega)
  have e3 : ¬ s.size ≤ k := by omega
  have hkle : k ≤ s.size := by omega
  have HRv : Hid (rs.length ≤ k) := (rounded_valid HV.out.1 HK.out HRd.out).2
  have HDf : Hid (val10 (padR rs k) - val10 ((nums s).take k) = 0) := by
    have := rounded_diff HV.out.1 HK.out HRd.out
    rw [HU.out] at this
    show _ = _
    simpa [padR] using this
  have e4 : decide ((k : Int) < (r.size : Int)) = false := decide_eq_false (by have := HRv.out; have := HRL.out; omega)
  have e5 : ¬ k < r.size := by have := HRv.out; have := HRL.out; omega
  obtain ⟨W1, hmk0, HW⟩ := make_full (w3.drewN q) k (by omega)
  have hmk : (mk25 (.int .i64 (k : Int)) (.int .i64 (k : Int))).run Try.prog (w3.drewN q) = .ok (.slice (some ⟨w3.heap.size, 0, none⟩) k k) W1 := by simpa using hmk0
  have HB0 : Hid (Below w.heap.size w W1 ∧ Buf W1 w3.heap.size k (fun _ => 0) ∧ w.heap.size ≤ w3.heap.size) :=
    ⟨(HBw.out.trans (below_drewN _ q _)).trans (HW.out.1.mono HBw.out.size), HW.out.2, HBw.out.size⟩
  clear hmk0 HW
  generalize w3.heap.size = g at *
  go_wp2
  go_loopw [18] (fun i wr => ∃ j : Nat, j ≤ k ∧ i = .int .i64 j ∧ Hid (Below w.heap.size w wr ∧ ∃ F, Buf wr g k F ∧ ∀ t, t < j → F t = orZero rs t)) (fun i _ => k - (intOf i).toNat)
  case atStart => exact ⟨0, Nat.zero_le _, rfl, HB0.out.1, _, HB0.out.2.1, fun t h => by omega⟩
  case round =>
    obtain ⟨j, hj, rfl, HB⟩ := hrel
    by_cases hjk : j < k
    · exfalso; omega
    · obtain rfl : k = j := by omega
      clear hj hjk
      obtain ⟨hb, F, hF, hz⟩ := HB.out
      have HQ : Hid (Row8 wr g 0 (padR rs k)) := hF.row (by rw [padR_length HRv.out]; exact Nat.le_refl _) (fun i hi => by rw [padR_length HRv.out] at hi; rw [dg_padR hi]; exact hz i hi)
      have HBq : Hid (Below w.heap.size w wr) := hb
      clear hb hF hz HB
      obtain ⟨W5, c5, hcv5, hb5, hr5, hc5, hl5⟩ := conv_bytes wr (s.extract 0 k)
      have hsz : (s.extract 0 k).size = k := by rw [← nums_length, nums_take s k hkle, List.length_take, HL.out]; omega
      rw [hsz] at hcv5
      rw [nums_take s k hkle] at hr5
      have H5 : Hid (Row8 W5 wr.heap.size 0 ((nums s).take k) ∧ Row8 W5 g 0 (padR rs k) ∧ Below w.heap.size w W5) := ⟨hr5, HQ.out.below hb5, HBq.out.trans (hb5.mono HBq.out.size)⟩
      clear hb5 hr5 hc5 hl5 hsz HQ HBq
      go_wp2_with fail
      refine (sub_at g 0 k wr.heap.size 0 c5 (padR rs k) ((nums s).take k) W5 (padR_length HRv.out) (by rw [List.length_take, HL.out]; omega) H5.out.2.1 H5.out.1 (padR_dig HVR.out.1.1 _) (dig_take HV.out.1.1 _) (by omega) (by omega)).mono ?_
      rintro e w6 ⟨g6, zs, bo, rfl, z1, z2, z3, z4, z5⟩
      obtain ⟨rfl, hval⟩ := sub_bo z1 z2 z5 HDf.out (by omega)
      have HB6 : Hid (Below w.heap.size w w6) := H5.out.2.2.trans (z4.mono H5.out.2.2.size)
      have HZ : Hid (∀ i, i < k → w6.cell? ⟨g6, i, none⟩ = some (.int .u8 48)) := fun i hi => by
        have h1 := z3 i (by omega)
        rw [Nat.zero_add] at h1
        rw [h1, val_zero_all zs z2 hval i (by omega)]
      clear z1 z2 z3 z4 z5 hval H5
      go_wp2
      go_loop [22] (fun i => ∃ j : Nat, j ≤ k ∧ i = .int .i64 j) (fun i => k - (intOf i).toNat)
      case atStart => exact ⟨0, Nat.zero_le _, rfl⟩
      case round =>
        obtain ⟨j, hj, rfl⟩ := hrel
        by_cases hjk : j + 1 < k
        · exfalso; omega
        · have hj1 : decide ((j : Int) + 1 < (k : Int)) = false := decide_eq_false (by omega)
          clear HZ
          go_wp2_with fail
          refine (cmp_le (s.extract k s.size) ⟨#[53]⟩ w6 (by rw [nums_drop s k hkle]; exact dig_drop HV.out.1.1 _) five_dig (by have := ext_size s k hkle; show 1 ≤ _; omega) (by have := ext_size s k hkle; omega)).mono ?_
          rintro e w7 ⟨rfl, hw7⟩
          obtain rfl := hw7.symm
          clear hw7
          obtain ⟨cv, ecv, hc3, hcw⟩ : ∃ cv, cmpV (nums (s.extract k s.size)) (nums ⟨#[53]⟩) (s.extract k s.size).size = cv ∧ (cv = -1 ∨ cv = 0 ∨ cv = 1) ∧ (decide (0 < cv) || ((cv == 0) && isOdd (nums s) k)) = goesUp (nums s) k := ⟨_, rfl, cmp_want HV.out.1 HK.out hkle⟩
          rw [ecv]
          rw [HU.out] at hcw
          have HCW : Hid _ := hcw
          clear ecv hcw
          rcases hc3 with rfl | rfl | rfl
          · go_wp2
            go_ret
            exact ⟨rfl, HB6.out⟩
          · go_wp2
            go_ret
            exact ⟨rfl, HB6.out⟩
          · have := HCW.out
            simp at this

set_option maxHeartbeats 8000000 in
theorem mid_C1 (neg lg : Bool) (s : ByteArray) (pt : Int) (k : Nat) (w : World) (hs : s.size ≤ 65536) (hv : ValidDec (nums s) pt) (hkl : k < (nums s).length) (hk0 : 0 < k) (hu : goesUp (nums s) k = false) (hg : ∀ rs grow, Rounded (nums s) k rs grow → grow = 0) :
    Calls Try.prog 3 #[.bool neg, .string s, .int .i64 pt, .bool lg, .int .i64 (k : Int)] w fun e w' => e = .returned (.bool true) ∧ Below w.heap.size w w' := by
  have HU : Hid _ := hu
  have HGr : Hid (∀ rs grow, Rounded (nums s) k rs grow → grow = 0) := hg
  have hkk : k < s.size := by rw [← nums_length]; exact hkl
  clear hu hg hkl
  have HV : Hid (ValidDec (nums s) pt) := hv
  have hpt : -10000 ≤ pt ∧ pt ≤ 10002 := by
    rcases hv.2 with ⟨_, h⟩ | ⟨_, h1, h2⟩ <;> omega
  have HL : Hid ((nums s).length = s.size) := nums_length s
  clear hv
  have hs6 : decide ((65536 : Int) < (s.size : Int)) = false := decide_eq_false (by omega)
  have hs6n : ¬ 65536 < s.size := by omega
  go_enter Try.func3, Try.ntmps3
  go_wp2_with fail
  refine (bytes_ok neg lg s pt (k : Int) w (by omega)).mono ?_
  rintro e w1 ⟨rfl, hw1⟩
  obtain rfl := hw1.symm
  clear hw1
  go_wp2_with fail
  refine (valid_dec_true s pt w (by omega) HV.out).mono ?_
  rintro e w1 ⟨rfl, hw1⟩
  obtain rfl := hw1.symm
  clear hw1
  go_wp2_with fail
  refine (make_any neg lg s pt w hs).mono ?_
  rintro e w1 ⟨n, f, long, rfl, ho, hb1, hcs⟩
  have HM := show Hid _ from made_src (neg := neg) (pt := pt) hcs
  have HB1 : Hid (Below w.heap.size w w1) := hb1
  clear hb1 hcs
  go_wp2_with (first | (refine store_last rfl (.tmp 11) (.tmp 46) rfl _ (by simp) _ rfl neg n f long pt ho rfl rfl ?_))
  obtain ⟨b0, off0, c0, HS⟩ := HM.out.2
  refine (zzround (k : Int) _ HM.out.1 ho HS HV.out.1.1 (by rw [HL.out]; exact hs) hpt).mono ?_
  rintro e w3 ⟨rfl, HO⟩
  obtain ⟨neg', pt', rs, n', f', long', b, off, c, hD, hS, hB, hSp⟩ := round_spec HO
  clear HO HS
  have HVR : Hid (Valid rs ∧ rs.length ≤ s.size + 1) := ⟨spec_valid hSp HV.out.1, by rw [← HL.out]; exact spec_length hSp HV.out.1⟩
  have HSp : Hid (Spec neg pt (nums s) (k : Int) neg' pt' rs) := hSp
  have HBw : Hid (Below w.heap.size w w3) := HB1.out.trans (((Below.refl w.heap.size w1).alloc HB1.out.size _).trans (hB.mono HB1.out.size))
  clear hSp hB
  generalize w1.heap.size = D at *
  have H : Hid (DecAt w3 D neg' n' f' long' pt' ∧ Src w3 D n' long' rs b off c) := ⟨hD, hS⟩
  clear hD hS HM HB1
  go_wp2_with fail
  refine (zzdigits H.out.1 H.out.2).mono ?_
  rintro e w4 ⟨rfl, q, hw4⟩
  subst hw4
  obtain ⟨r, HR, hcv⟩ := to_string (w := w3.drewN q) H.out.2.1 HVR.out.1.1 c
  have HRL : Hid (r.size = rs.length) := by show r.size = rs.length; rw [← HR.out, nums_length]
  go_wp2_with fail
  refine (zzneg_any D _ neg' (by exact H.out.1.cell 0)).mono ?_
  rintro e w5 ⟨rfl, hw5⟩
  obtain rfl := hw5.symm
  clear hw5
  go_wp2_with fail
  refine (zzpoint_any D _ pt' (by exact H.out.1.cell 25)).mono ?_
  rintro e w5 ⟨rfl, hw5⟩
  obtain rfl := hw5.symm
  clear hw5
  have hrs : r.size ≤ 65537 := by
    have := HRL.out
    have := HVR.out.2
    omega
  go_wp2_with fail
  refine (valid_digits_true r _ (by omega) (by rw [HR.out]; exact HVR.out.1)).mono ?_
  rintro e w5 ⟨rfl, hw5⟩
  obtain rfl := hw5.symm
  clear hw5 hcv
  obtain ⟨grow, hkl, rfl, hr, hp⟩ : ∃ grow : Nat, k < (nums s).length ∧ neg' = neg ∧ Rounded (nums s) k rs grow ∧ pt' = pt + grow := by
    rcases HSp.out with ⟨h1, _⟩ | ⟨h1, _⟩ | ⟨k', grow, e, hkl, e2, hr, hp⟩
    · exfalso; omega
    · rw [HL.out] at h1; exfalso; omega
    · obtain rfl : k = k' := by omega
      exact ⟨grow, hkl, e2, hr, hp⟩
  have HK : Hid (k < (nums s).length) := hkl
  clear hkl
  obtain rfl := HGr.out _ _ hr
  have hp1 : pt = pt' := by omega
  subst hp1
  have hpp : pt - pt = 0 := by omega
  have HRd : Hid (Rounded (nums s) k rs 0) := hr
  clear hp hr HGr hkk
  have hks : k < s.size := by have := HK.out; rw [HL.out] at this; exact this
  have e1 : (k : Int) < (s.size : Int) := by omega
  have e2 : decide ((s.size : Int) ≤ (k : Int)) = false := decide_eq_false (by omega)
  have e3 : ¬ s.size ≤ k := by omega
  have hkle : k ≤ s.size := by omega
  have HRv : Hid (rs.length ≤ k) := (rounded_valid HV.out.1 HK.out HRd.out).2
  have HDf : Hid (val10 (padR rs k) - val10 ((nums s).take k) = 0) := by
    have := rounded_diff HV.out.1 HK.out HRd.out
    rw [HU.out] at this
    show _ = _
    simpa [padR] using this
  have e4 : decide ((k : Int) < (r.size : Int)) = false := decide_eq_false (by have := HRv.out; have := HRL.out; omega)
  have e5 : ¬ k < r.size := by have := HRv.out; have := HRL.out; omega
  obtain ⟨W1, hmk0, HW⟩ := make_full (w3.drewN q) k (by omega)
  have hmk : (mk25 (.int .i64 (k : Int)) (.int .i64 (k : Int))).run Try.prog (w3.drewN q) = .ok (.slice (some ⟨w3.heap.size, 0, none⟩) k k) W1 := by simpa using hmk0
  have HB0 : Hid (Below w.heap.size w W1 ∧ Buf W1 w3.heap.size k (fun _ => 0) ∧ w.heap.size ≤ w3.heap.size) :=
    ⟨(HBw.out.trans (below_drewN _ q _)).trans (HW.out.1.mono HBw.out.size), HW.out.2, HBw.out.size⟩
  clear hmk0 HW
  generalize w3.heap.size = g at *
  go_wp2
  go_loopw [18] (fun i wr => ∃ j : Nat, j ≤ k ∧ i = .int .i64 j ∧ Hid (Below w.heap.size w wr ∧ ∃ F, Buf wr g k F ∧ ∀ t, t < j → F t = orZero rs t)) (fun i _ => k - (intOf i).toNat)
  case atStart => exact ⟨0, Nat.zero_le _, rfl, HB0.out.1, _, HB0.out.2.1, fun t h => by omega⟩
  case round =>
    obtain ⟨j, hj, rfl, HB⟩ := hrel
    by_cases hjk : j < k
    · have hj1 : (j : Int) < (k : Int) := by omega
      obtain ⟨x, HX⟩ : ∃ x, Hid (orZero (nums r) j = x) := ⟨_, rfl⟩
      obtain ⟨hb, F, hF, hz⟩ := HB.out
      have hc := hF.cell (i := j) hjk
      have hf := hF.fr j
      have HN : Hid (Below w.heap.size w (wr.setCell ⟨g, j, none⟩ (.int .u8 x)) ∧ ∃ F, Buf (wr.setCell ⟨g, j, none⟩ (.int .u8 x)) g k F ∧ ∀ t, t < j + 1 → F t = orZero rs t) :=
        ⟨hb.setCell (p := ⟨g, j, none⟩) HB0.out.2.2 (.int .u8 x), upd F j x, hF.set (i := j) hjk x, fun t ht => by
          unfold upd
          by_cases e : t = j
          · subst e; rw [if_pos rfl, ← HX.out, HR.out]
          · rw [if_neg e]; exact hz t (by omega)⟩
      clear hb hF hz HB
      go_wp2_with fail
      refine (digit_or_zero r j wr (by omega)).mono ?_
      rintro e w5 ⟨rfl, hw5⟩
      obtain rfl := hw5.symm
      clear hw5
      rw [HX.out]
      go_wp2
      go_roundw
      case rel => exact ⟨j + 1, by omega, by go_num, HN.out⟩
      case measure => simp [intOf]; omega
    · obtain rfl : k = j := by omega
      clear hj hjk
      obtain ⟨hb, F, hF, hz⟩ := HB.out
      have HQ : Hid (Row8 wr g 0 (padR rs k)) := hF.row (by rw [padR_length HRv.out]; exact Nat.le_refl _) (fun i hi => by rw [padR_length HRv.out] at hi; rw [dg_padR hi]; exact hz i hi)
      have HBq : Hid (Below w.heap.size w wr) := hb
      clear hb hF hz HB
      obtain ⟨W5, c5, hcv5, hb5, hr5, hc5, hl5⟩ := conv_bytes wr (s.extract 0 k)
      have hsz : (s.extract 0 k).size = k := by rw [← nums_length, nums_take s k hkle, List.length_take, HL.out]; omega
      rw [hsz] at hcv5
      rw [nums_take s k hkle] at hr5
      have H5 : Hid (Row8 W5 wr.heap.size 0 ((nums s).take k) ∧ Row8 W5 g 0 (padR rs k) ∧ Below w.heap.size w W5) := ⟨hr5, HQ.out.below hb5, HBq.out.trans (hb5.mono HBq.out.size)⟩
      clear hb5 hr5 hc5 hl5 hsz HQ HBq
      go_wp2_with fail
      refine (sub_at g 0 k wr.heap.size 0 c5 (padR rs k) ((nums s).take k) W5 (padR_length HRv.out) (by rw [List.length_take, HL.out]; omega) H5.out.2.1 H5.out.1 (padR_dig HVR.out.1.1 _) (dig_take HV.out.1.1 _) (by omega) (by omega)).mono ?_
      rintro e w6 ⟨g6, zs, bo, rfl, z1, z2, z3, z4, z5⟩
      obtain ⟨rfl, hval⟩ := sub_bo z1 z2 z5 HDf.out (by omega)
      have HB6 : Hid (Below w.heap.size w w6) := H5.out.2.2.trans (z4.mono H5.out.2.2.size)
      have HZ : Hid (∀ i, i < k → w6.cell? ⟨g6, i, none⟩ = some (.int .u8 48)) := fun i hi => by
        have h1 := z3 i (by omega)
        rw [Nat.zero_add] at h1
        rw [h1, val_zero_all zs z2 hval i (by omega)]
      clear z1 z2 z3 z4 z5 hval H5
      go_wp2
      go_loop [22] (fun i => ∃ j : Nat, j ≤ k ∧ i = .int .i64 j) (fun i => k - (intOf i).toNat)
      case atStart => exact ⟨0, Nat.zero_le _, rfl⟩
      case round =>
        obtain ⟨j, hj, rfl⟩ := hrel
        by_cases hjk : j + 1 < k
        · have hcj : w6.cell? ⟨g6, j, none⟩ = some (.int .u8 48) := by exact HZ.out j (by omega)
          have hj1 : (j : Int) + 1 < (k : Int) := by omega
          go_wp2
          go_round
          case rel => exact ⟨j + 1, by omega, by go_num⟩
          case measure => simp [intOf]; omega
        · have hj1 : decide ((j : Int) + 1 < (k : Int)) = false := decide_eq_false (by omega)
          have hcl : w6.cell? ⟨g6, (k - 1), none⟩ = some (.int .u8 48) := by exact HZ.out (k - 1) (by omega)
          go_wp2_with fail
          have hyb := dig_at s k hk0 (by omega) HV.out.1.1
          have hki : (0 : Int) < (k : Int) := by omega
          have hk1s : k - 1 < s.size := by omega
          refine (cmp_le (s.extract k s.size) ⟨#[53]⟩ w6 (by rw [nums_drop s k hkle]; exact dig_drop HV.out.1.1 _) five_dig (by have := ext_size s k hkle; show 1 ≤ _; omega) (by have := ext_size s k hkle; omega)).mono ?_
          rintro e w7 ⟨rfl, hw7⟩
          obtain rfl := hw7.symm
          clear hw7
          obtain ⟨cv, ecv, hc3, hcw⟩ : ∃ cv, cmpV (nums (s.extract k s.size)) (nums ⟨#[53]⟩) (s.extract k s.size).size = cv ∧ (cv = -1 ∨ cv = 0 ∨ cv = 1) ∧ (decide (0 < cv) || ((cv == 0) && isOdd (nums s) k)) = goesUp (nums s) k := ⟨_, rfl, cmp_want HV.out.1 HK.out hkle⟩
          rw [ecv]
          rw [HU.out] at hcw
          have HCW : Hid _ := hcw
          clear ecv hcw
          rcases hc3 with rfl | rfl | rfl
          · go_wp2
            go_ret
            exact ⟨rfl, HB6.out⟩
          · have hodd : (((s[k - 1].toNat : Int) - 48) % 2 == 1) = false := by
              have := HCW.out
              rw [is_odd s k hk0 (by omega)] at this
              simpa using this
            go_wp2
            go_ret
            exact ⟨rfl, HB6.out⟩
          · have := HCW.out
            simp at this

theorem long1 (neg lg : Bool) (s : ByteArray) (pt keep : Int) (w : World) (h : 1048576 < s.size) (hm : s.size ≤ maxLen) :
    Calls Try.prog 3 #[.bool neg, .string s, .int .i64 pt, .bool lg, .int .i64 keep] w fun e w' => e = .returned (.bool true) ∧ Below w.heap.size w w' := by
  go_enter Try.func3, Try.ntmps3
  go_wp2_with fail
  refine (bytes_no neg lg s pt keep w h hm).mono ?_
  rintro e w1 ⟨rfl, hw1⟩
  obtain rfl := hw1.symm
  clear hw1
  go_wp2
  go_ret
  exact ⟨rfl, Below.refl _ _⟩
theorem long2 (neg lg : Bool) (s : ByteArray) (pt keep : Int) (w : World) (h : s.size ≤ 1048576) (h6 : 65536 < s.size) :
    Calls Try.prog 3 #[.bool neg, .string s, .int .i64 pt, .bool lg, .int .i64 keep] w fun e w' => e = .returned (.bool true) ∧ Below w.heap.size w w' := by
  have h6' : (65536 : Int) < (s.size : Int) := by omega
  go_enter Try.func3, Try.ntmps3
  go_wp2_with fail
  refine (bytes_ok neg lg s pt keep w h).mono ?_
  rintro e w1 ⟨rfl, hw1⟩
  obtain rfl := hw1.symm
  clear hw1
  go_wp2
  go_ret
  exact ⟨rfl, Below.refl _ _⟩
theorem not_valid (neg lg : Bool) (s : ByteArray) (pt keep : Int) (w : World) (h : s.size ≤ 65536) (hv : ¬ ValidDec (nums s) pt) :
    Calls Try.prog 3 #[.bool neg, .string s, .int .i64 pt, .bool lg, .int .i64 keep] w fun e w' => e = .returned (.bool true) ∧ Below w.heap.size w w' := by
  have hs6 : decide ((65536 : Int) < (s.size : Int)) = false := decide_eq_false (by omega)
  have HV : Hid (¬ ValidDec (nums s) pt) := hv
  clear hv
  go_enter Try.func3, Try.ntmps3
  go_wp2_with fail
  refine (bytes_ok neg lg s pt keep w (by omega)).mono ?_
  rintro e w1 ⟨rfl, hw1⟩
  obtain rfl := hw1.symm
  clear hw1
  go_wp2_with fail
  refine (valid_dec s pt w (by omega)).mono ?_
  rintro e w1 ⟨⟨v, rfl, hv⟩, hw1⟩
  obtain rfl := hw1.symm
  clear hw1
  obtain rfl : v = false := by
    cases v with
    | false => rfl
    | true => exact absurd (hv.1 rfl) HV.out
  clear hv
  go_wp2
  go_ret
  exact ⟨rfl, Below.refl _ _⟩

theorem round_law (neg lg : Bool) (s : ByteArray) (pt keep : Int) (w : World) (hm : s.size ≤ maxLen) (hk : -9223372036854775808 ≤ keep ∧ keep ≤ 9223372036854775807) :
    Calls Try.prog 3 #[.bool neg, .string s, .int .i64 pt, .bool lg, .int .i64 keep] w fun e w' => e = .returned (.bool true) ∧ Below w.heap.size w w' := by
  by_cases h1 : 1048576 < s.size
  · exact long1 neg lg s pt keep w h1 hm
  by_cases h2 : 65536 < s.size
  · exact long2 neg lg s pt keep w (by omega) h2
  by_cases hv : ValidDec (nums s) pt
  case neg => exact not_valid neg lg s pt keep w (by omega) hv
  by_cases ho : keep < 0 ∨ (s.size : Int) ≤ keep
  · exact round_out neg lg s pt keep w (by omega) hv hk ho
  obtain ⟨k, rfl⟩ : ∃ k : Nat, keep = k := ⟨keep.toNat, by omega⟩
  have hkl : k < (nums s).length := by rw [nums_length]; omega
  cases hu : goesUp (nums s) k with
  | true =>
    by_cases h9 : ∀ j, j < k → dg (nums s) j = 57
    · have hg : ∀ rs grow, Rounded (nums s) k rs grow → grow = 1 := fun rs grow h => by
        rcases h with ⟨h, _⟩ | ⟨_, _, i, hi, hn, _⟩ | ⟨_, _, _, h⟩
        · rw [hu] at h; cases h
        · exact absurd (h9 i hi) hn
        · exact h
      by_cases h0 : k = 0
      · exact mid_A0 neg lg s pt k w (by omega) hv hkl h0 hu hg
      · exact mid_A1 neg lg s pt k w (by omega) hv hkl (by omega) hu hg
    · have hg : ∀ rs grow, Rounded (nums s) k rs grow → grow = 0 := fun rs grow h => by
        rcases h with ⟨_, _, h⟩ | ⟨_, h, _⟩ | ⟨_, h, _⟩
        · exact h
        · exact h
        · exact absurd h h9
      by_cases h0 : k = 0
      · exact absurd (fun j hj => by omega) h9
      · exact mid_B neg lg s pt k w (by omega) hv hkl (by omega) hu hg
  | false =>
    have hg : ∀ rs grow, Rounded (nums s) k rs grow → grow = 0 := fun rs grow h => by
      rcases h with ⟨_, _, h⟩ | ⟨_, h, _⟩ | ⟨h, _⟩
      · exact h
      · exact h
      · rw [hu] at h; cases h
    by_cases h0 : k = 0
    · exact mid_C0 neg lg s pt k w (by omega) hv hkl h0 hu hg
    · exact mid_C1 neg lg s pt k w (by omega) hv hkl (by omega) hu hg

end Go.Proofs.Qxb6600033a
