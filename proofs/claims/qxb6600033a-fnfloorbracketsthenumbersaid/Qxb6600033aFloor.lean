/-
  THE WALKS of Decimal.Floor and its closure.
-/
import Derived.Test.Qxb6600033aRnd
import Derived.Test.Qxb6600033aFlPlain
namespace Go.Proofs.Qxb6600033a
open Go.RowKit
set_option linter.unusedVariables false
set_option maxRecDepth 100000

theorem ret_u64 {x y : Int} (h : x = y) : Ending.returned (.int .u64 x) = .returned (.int .u64 y) := by rw [h]

theorem floor_digit (B b off c : Nat) (ds : List Int) (j : Int) (w : World) (hc : w.cell? ⟨B, 0, none⟩ = some (.slice (some ⟨b, off, none⟩) ds.length c)) (hr : Row8 w b off ds) (hd : IsDig ds) (hl : ds.length ≤ 65536) :
    Calls Try.prog 38 #[.int .i64 j, .pointer (some ⟨B, 0, none⟩)] w fun e w' => e = .returned (.int .u64 (digI ds j)) ∧ w' = w := by
  have HR : Hid (Row8 w b off ds ∧ IsDig ds) := ⟨hr, hd⟩
  clear hr hd
  by_cases h0 : 0 ≤ j
  · by_cases h1 : j < ds.length
    · obtain ⟨k, rfl⟩ : ∃ k : Nat, j = k := ⟨j.toNat, by omega⟩
      have hk : k < ds.length := by omega
      obtain ⟨x, HX, hxd, hx⟩ : ∃ x, Hid (digI ds k = x - 48) ∧ (48 ≤ x ∧ x ≤ 57) ∧ w.cell? ⟨b, off + k, none⟩ = some (.int .u8 x) := ⟨_, digI_in hk, dg_dig HR.out.2 hk, HR.out.1 k hk⟩
      go_enter Try.func38, Try.ntmps38
      go_wp2
      go_ret
      exact ⟨ret_u64 HX.out.symm, rfl⟩
    · have h1' : decide (j < (ds.length : Int)) = false := decide_eq_false h1
      have HX : Hid (digI ds j = 0) := digI_out (.inr (by omega))
      go_enter Try.func38, Try.ntmps38
      go_wp2
      go_ret
      exact ⟨ret_u64 HX.out.symm, rfl⟩
  · have h0' : decide (0 ≤ j) = false := decide_eq_false h0
    have HX : Hid (digI ds j = 0) := digI_out (.inl (by omega))
    go_enter Try.func38, Try.ntmps38
    go_wp2
    go_ret
    exact ⟨ret_u64 HX.out.symm, rfl⟩


theorem below_q {B : Nat} {a w : World} (h : Below B a w) (q : Nat) : Below B a (w.drewN q) := ⟨h.os, h.tape, h.output, h.size, h.block⟩
theorem DecAt.lt {w : World} {D : Nat} {neg : Bool} {n : Int} {f : Nat → Int} {long : Value} {pt : Int} (h : DecAt w D neg n f long pt) : D < w.heap.size := (Array.getElem?_eq_some_iff.1 h).1
set_option maxHeartbeats 4000000 in
theorem floor_walk {w : World} {D : Nat} {neg : Bool} {n : Int} {f : Nat → Int} {long : Value} {pt : Int} {ds : List Int} {b off c : Nat} (P : Nat) (h : DecAt w D neg n f long pt) (hs : Src w D n long ds b off c) (hd : IsDig ds) (hl : ds.length ≤ 65536) (hpt : -10000 ≤ pt ∧ pt ≤ 18) (hP : P ≤ 19) :
    Calls Try.prog 27 #[.pointer (some ⟨D, 0, none⟩), .int .i64 P] w fun e w' => e = .returned (.tuple #[.int .i64 (flW neg ds pt P), .int .u64 (flF neg ds pt P), .bool true]) ∧ Hid (Below w.heap.size w w') := by
  have HD : Hid (DecAt w D neg n f long pt ∧ Src w D n long ds b off c ∧ IsDig ds) := ⟨h, hs, hd⟩
  have h25 : w.cell? ⟨D, 25, none⟩ = some (.int .i64 pt) := by exact h.cell 25
  have hDl : D < w.heap.size := World.block_lt_of_cell? w _ h25
  have h18 : decide ((18 : Int) < pt) = false := decide_eq_false (by omega)
  clear h hs hd
  go_enter Try.func27, Try.ntmps27
  go_wp2_with fail
  refine (digits_src HD.out.1 HD.out.2.1).mono ?_
  rintro e w1 ⟨rfl, q, hw1⟩
  have HB1 : Hid (Below w.heap.size w w1 ∧ w1.heap.size = w.heap.size) := by subst hw1; exact ⟨⟨rfl, rfl, rfl, Nat.le_refl _, fun _ _ => rfl⟩, rfl⟩
  have HD1 : Hid (DecAt w1 D neg n f long pt ∧ Row8 w1 b off ds ∧ IsDig ds) := by subst hw1; exact ⟨HD.out.1, HD.out.2.1.1, HD.out.2.2⟩
  clear hw1 HD h25 hDl
  have HA : Hid (∀ p : Addr, p.block < w1.heap.size → (w1.alloc (.cells #[.slice (some ⟨b, off, none⟩) ds.length c] 25)).cell? p = w1.cell? p) := fun p hp => by
    exact ((Below.refl _ w1).alloc (Nat.le_refl _) _).cell hp
  have h25b : (w1.alloc (.cells #[.slice (some ⟨b, off, none⟩) ds.length c] 25)).cell? ⟨D, 25, none⟩ = some (.int .i64 pt) := by
    rw [HA.out _ (HD1.out.1.lt), HD1.out.1.cell]; rfl
  have hcB : (w1.alloc (.cells #[.slice (some ⟨b, off, none⟩) ds.length c] 25)).cell? ⟨w1.heap.size, 0, none⟩ = some (.slice (some ⟨b, off, none⟩) ds.length c) := by simp
  have h00 : (w1.alloc (.cells #[.slice (some ⟨b, off, none⟩) ds.length c] 25)).cell? ⟨D, 0, none⟩ = some (.bool neg) := by
    rw [HA.out _ (HD1.out.1.lt), HD1.out.1.cell]; rfl
  have HR : Hid (Row8 (w1.alloc (.cells #[.slice (some ⟨b, off, none⟩) ds.length c] 25)) b off ds ∧ IsDig ds ∧ Below w.heap.size w (w1.alloc (.cells #[.slice (some ⟨b, off, none⟩) ds.length c] 25))) :=
    ⟨HD1.out.2.1.below ((Below.refl _ w1).alloc (Nat.le_refl _) _), HD1.out.2.2, HB1.out.1.trans ((Below.refl _ w1).alloc (by rw [HB1.out.2]; exact Nat.le_refl _) _)⟩
  clear HD1 HB1 HA
  go_wp2
  generalize w1.alloc (.cells #[.slice (some ⟨b, off, none⟩) ds.length c] 25) = W at *
  generalize w1.heap.size = B at *
  go_loop [9, 25] (fun m i => ∃ k : Nat, (k : Int) ≤ max pt 0 ∧ m = .int .u64 (pre ds k) ∧ i = .int .i64 k) (fun _ i => (pt - intOf i).toNat)
  case atStart => exact ⟨0, by omega, rfl, rfl⟩
  case round =>
    obtain ⟨k, hk, rfl, rfl⟩ := hrel
    by_cases hkp : (k : Int) < pt
    · have hpr := pre_range HR.out.2.1 k
      have hdr := digI_range HR.out.2.1 k
      have hpw : (10 : Int) ^ k ≤ 10 ^ 17 := pow_mono10 (by omega)
      have hpw2 : (10 : Int) ^ 17 = 100000000000000000 := rfl
      have HNx : Hid (pre ds (k + 1) = pre ds k * 10 + digI ds k) := rfl
      generalize pre ds k = M at *
      have hM : 0 ≤ M ∧ M < 100000000000000000 := by omega
      clear hpr hpw hpw2
      go_wp2_with (go_at_call 38; refine (floor_digit B b off c ds k W hcB HR.out.1 HR.out.2.1 hl).mono ?_; rintro e w2 ⟨rfl, hw2⟩; obtain rfl := hw2.symm; clear hw2)
      go_round
      case rel => exact ⟨k + 1, by omega, by rw [HNx.out], by go_num⟩
      case measure => simp [intOf]; omega
    · have hkk : k = pt.toNat := by omega
      subst hkk
      have hkp' : decide (((pt.toNat : Nat) : Int) < pt) = false := decide_eq_false hkp
      have hpr := pre_range HR.out.2.1 pt.toNat
      have hpw : (10 : Int) ^ pt.toNat ≤ 10 ^ 18 := pow_mono10 (by omega)
      have hpw2 : (10 : Int) ^ 18 = 1000000000000000000 := rfl
      obtain ⟨M, HM, hM⟩ : ∃ M, Hid (pre ds pt.toNat = M) ∧ (0 ≤ M ∧ M < 1000000000000000000) := ⟨_, rfl, by omega⟩
      rw [HM.out]
      clear hpr hpw hpw2
      go_wp2
      go_loop [5, 10, 36] (fun f u i => ∃ k : Nat, k ≤ P ∧ f = .int .u64 (fr ds pt k) ∧ u = .int .u64 (10 ^ k) ∧ i = .int .i64 k) (fun _ _ i => P - (intOf i).toNat)
      case atStart => exact ⟨0, Nat.zero_le _, rfl, rfl, rfl⟩
      case round =>
        obtain ⟨k, hk, rfl, rfl, rfl⟩ := hrel
        have hfr := fr_range HR.out.2.1 pt k
        by_cases hkP : k < P
        · have hkP' : (k : Int) < (P : Int) := by omega
          have hdr := digI_range HR.out.2.1 (pt + k)
          have hpw : (10 : Int) ^ k ≤ 10 ^ 18 := pow_mono10 (by omega)
          have hpw2 : (10 : Int) ^ 18 = 1000000000000000000 := rfl
          have hpp := pow_pos10 k
          have HNx : Hid (fr ds pt (k + 1) = fr ds pt k * 10 + digI ds (pt + k)) := rfl
          have HNu : Hid ((10 : Int) ^ (k + 1) = 10 ^ k * 10) := Int.pow_succ _ _
          generalize fr ds pt k = F at *
          generalize (10 : Int) ^ k = U at *
          have hF : 0 ≤ F ∧ F < 1000000000000000000 := by omega
          have hU : 0 ≤ U ∧ U ≤ 1000000000000000000 := by omega
          clear hpw hpw2 hpp hfr
          go_wp2_with (go_at_call 38; refine (floor_digit B b off c ds (pt + k) W hcB HR.out.1 HR.out.2.1 hl).mono ?_; rintro e w2 ⟨rfl, hw2⟩; obtain rfl := hw2.symm; clear hw2)
          go_round
          case rel => exact ⟨k + 1, by omega, by rw [HNx.out], by rw [HNu.out], by go_num⟩
          case measure => simp [intOf]; omega
        · obtain rfl : k = P := by omega
          have hkP' : decide ((k : Int) < (k : Int)) = false := decide_eq_false (by omega)
          have hpw : (10 : Int) ^ k ≤ 10 ^ 19 := pow_mono10 hP
          have hpw2 : (10 : Int) ^ 19 = 10000000000000000000 := rfl
          have hpp := pow_pos10 k
          obtain ⟨F, HF, hF⟩ : ∃ F, Hid (fr ds pt k = F) ∧ (0 ≤ F ∧ F < 10000000000000000000 ∧ F < 10 ^ k) := ⟨_, rfl, by omega⟩
          obtain ⟨U, HU, hU⟩ : ∃ U, Hid ((10 : Int) ^ k = U) ∧ (0 ≤ U ∧ U ≤ 10000000000000000000) := ⟨_, rfl, by omega⟩
          rw [HF.out]
          rw [HU.out] at hF ⊢
          clear hpw hpw2 hpp hfr hk hkP
          cases neg with
          | false =>
            have HW : Hid (M = flW false ds pt k ∧ F = flF false ds pt k) := ⟨HM.out.symm, HF.out.symm⟩
            go_wp2
            refine bodyPost_ret (results_tmp3 Try.results27 _ _ _) rfl ?_
            exact ⟨by rw [← HW.out.1, ← HW.out.2]; rfl, HR.out.2.2⟩
          | true =>
            by_cases hlt : pt + k < ds.length
            · have HW : Hid (-(M + 1) = flW true ds pt k ∧ U - (F + 1) = flF true ds pt k) := by
                have e1 : flF1 ds pt k = F + 1 := by unfold flF1; rw [if_pos hlt, HF.out]
                show _ ∧ _
                unfold flW flF
                rw [if_pos rfl, if_pos rfl, e1, if_neg (by omega), if_neg (by omega), HM.out, HU.out]
                exact ⟨rfl, rfl⟩
              go_wp2
              go_quiet (fail)
              go_wp2
              refine bodyPost_ret (results_tmp3 Try.results27 _ _ _) rfl ?_
              exact ⟨by rw [← HW.out.1, ← HW.out.2]; rfl, below_q HR.out.2.2 _⟩
            · have hlt' : decide (pt + (k : Int) < (ds.length : Int)) = false := decide_eq_false hlt
              by_cases hF0 : F = 0
              · have HW : Hid (-M = flW true ds pt k ∧ 0 = flF true ds pt k) := by
                  have e1 : flF1 ds pt k = 0 := by unfold flF1; rw [if_neg hlt, HF.out, hF0]
                  show _ ∧ _
                  unfold flW flF
                  rw [if_pos rfl, if_pos rfl, e1, if_pos rfl, if_pos rfl, HM.out]
                  exact ⟨rfl, rfl⟩
                subst hF0
                go_wp2
                go_quiet (fail)
                go_wp2
                refine bodyPost_ret (results_tmp3 Try.results27 _ _ _) rfl ?_
                exact ⟨by rw [← HW.out.1, ← HW.out.2]; rfl, below_q HR.out.2.2 _⟩
              · have HW : Hid (-(M + 1) = flW true ds pt k ∧ U - F = flF true ds pt k) := by
                  have e1 : flF1 ds pt k = F := by unfold flF1; rw [if_neg hlt, HF.out]
                  show _ ∧ _
                  unfold flW flF
                  rw [if_pos rfl, if_pos rfl, e1, if_neg hF0, if_neg hF0, HM.out, HU.out]
                  exact ⟨rfl, rfl⟩
                have hF0' : (F == 0) = false := beq_eq_false_iff_ne.2 hF0
                go_wp2
                go_quiet (fail)
                go_wp2
                refine bodyPost_ret (results_tmp3 Try.results27 _ _ _) rfl ?_
                exact ⟨by rw [← HW.out.1, ← HW.out.2]; rfl, below_q HR.out.2.2 _⟩

end Go.Proofs.Qxb6600033a
