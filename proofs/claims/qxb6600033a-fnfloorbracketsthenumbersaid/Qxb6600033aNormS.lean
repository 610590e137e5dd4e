/-
  THE WALK of zzB1NormalizeScaled.
-/
import Derived.Test.Qxb6600033aFlPlain
namespace Go.Proofs.Qxb6600033a
open Go.RowKit
set_option linter.unusedVariables false
set_option maxRecDepth 100000

theorem val_all48 {l : List Int} (h : ∀ j, j < l.length → dg l j = 48) : val10 l = 0 := by
  have : l = zeros l.length := List.eq_replicate_iff.2 ⟨rfl, fun x hx => by
    obtain ⟨j, hj, rfl⟩ := List.getElem_of_mem hx
    rw [← dg_get hj]; exact h j hj⟩
  rw [this, val_zeros]
theorem dg_taken {l : List Int} {k i : Nat} (h : i < k) : dg (l.take k) i = dg l i := by
  simp [dg, List.getD_eq_getElem?_getD, h]

def midOf (zs : List Int) (z e : Nat) : List Int := (zs.drop z).take (e - z)
theorem mid_length {zs : List Int} {z e : Nat} (he : e ≤ zs.length) : (midOf zs z e).length = e - z := by
  unfold midOf; rw [List.length_take, List.length_drop]; omega
theorem mid_dg {zs : List Int} {z e i : Nat} (hi : i < e - z) : dg (midOf zs z e) i = dg zs (z + i) := by
  unfold midOf; rw [dg_taken hi, dg_drop]
theorem mid_dig {zs : List Int} (h : IsDig zs) (z e : Nat) : IsDig (midOf zs z e) := dig_take (dig_drop h z) _

theorem norm_zero {zs : List Int} (P : Nat) (h : ∀ j, j < zs.length → dg zs j = 48) : NormOf (val10 zs) P (nums ⟨#[]⟩) 0 := by
  rw [val_all48 h]
  exact ⟨⟨fun x hx => by simp [nums] at hx, fun h => by simp [nums] at h⟩, by simp [nums], P, by simp [nums], by simp [nums, val10]⟩
theorem norm_mid {zs : List Int} (P : Nat) {z e : Nat} (hd : IsDig zs) (hz : ∀ j, j < z → dg zs j = 48) (hze : z < e) (he : e ≤ zs.length) (hx : dg zs z ≠ 48) (hy : ∀ j, e ≤ j → j < zs.length → dg zs j = 48) :
    NormOf (val10 zs) P (midOf zs z e) ((zs.length : Int) - z - P) := by
  have hl := mid_length (zs := zs) (z := z) he
  have hn : Norm (midOf zs z e) := ⟨mid_dig hd z e, fun _ => by rw [mid_dg (by omega), Nat.add_zero]; exact hx⟩
  have hv : val10 zs = val10 (midOf zs z e) * 10 ^ (zs.length - e) := by
    have e1 := val_append (zs.take z) (zs.drop z)
    rw [List.take_append_drop, val_all48 (l := zs.take z) (fun j hj => by rw [List.length_take] at hj; rw [dg_taken (by omega)]; exact hz j (by omega))] at e1
    have e2 := val_append ((zs.drop z).take (e - z)) ((zs.drop z).drop (e - z))
    rw [List.take_append_drop, val_all48 (l := (zs.drop z).drop (e - z)) (fun j hj => by rw [List.length_drop, List.length_drop] at hj; rw [dg_drop, dg_drop]; exact hy _ (by omega) (by omega)), List.length_drop, List.length_drop] at e2
    rw [e1, e2, show zs.length - z - (e - z) = zs.length - e from by omega]
    unfold midOf
    omega
  have hp := mag_pos hn (by omega) 0 0
  have hvp : 0 < val10 (midOf zs z e) := by
    have := norm_low hn (by omega)
    have := pow_pos10 ((midOf zs z e).length - 1)
    omega
  refine ⟨hn, ⟨fun h => by omega, fun h => ?_⟩, zs.length - e, by rw [hl]; omega, hv⟩
  have := Int.mul_pos hvp (pow_pos10 (zs.length - e))
  omega
theorem mid_row {w : World} {b : Nat} {zs : List Int} (h : Row8 w b 0 zs) {z e : Nat} (he : e ≤ zs.length) : Row8 w b z (midOf zs z e) := fun i hi => by
  rw [mid_length he] at hi
  rw [mid_dg hi]
  have := h (z + i) (by omega)
  rwa [Nat.zero_add] at this
/-- 'string(b)' of digits. -/
theorem to_str {w : World} {b off : Nat} {rs : List Int} (hr : Row8 w b off rs) (hd : IsDig rs) (c : Nat) : ∃ r : ByteArray, Hid (nums r = rs) ∧ (convert 25 9 (.slice (some ⟨b, off, none⟩) rs.length c)).run Try.prog w = .ok (.string r) w := by
  refine ⟨strOfNums rs, ?_, run_convert_bytes_arg w 25 5 Try.underlying25 Try.underlying5 b off rs.length c rs rfl (fun i hi => hr i hi) 9 Try.underlying9⟩
  show nums (strOfNums rs) = rs
  unfold nums
  rw [strOfNums_data, List.map_map]
  conv => rhs; rw [← List.map_id rs]
  apply List.map_congr_left
  intro x hx
  have := hd x hx
  simp
  omega

set_option maxHeartbeats 2000000 in
theorem norm_scaled (b c : Nat) (zs : List Int) (P : Nat) (w : World) (hr : Row8 w b 0 zs) (hd : IsDig zs) (hc : zs.length ≤ c) (hl : zs.length ≤ 65536) (hP : P ≤ 19) :
    Calls Try.prog 41 #[.slice (some ⟨b, 0, none⟩) zs.length c, .int .i64 P] w fun e w' => ∃ r : ByteArray, ∃ rp : Int, e = .returned (.tuple #[.string r, .int .i64 rp]) ∧ Hid (NormOf (val10 zs) P (nums r) rp ∧ r.size ≤ zs.length) ∧ w' = w := by
  have HR : Hid (Row8 w b 0 zs ∧ IsDig zs) := ⟨hr, hd⟩
  clear hr hd
  go_enter Try.func41, Try.ntmps41
  go_wp2
  go_loop [6] (fun i => ∃ z : Nat, z ≤ zs.length ∧ i = .int .i64 z ∧ Hid (∀ j, j < z → dg zs j = 48)) (fun i => zs.length - (intOf i).toNat)
  case atStart => exact ⟨0, Nat.zero_le _, rfl, fun j h => by omega⟩
  case round =>
    obtain ⟨z, hz, rfl, HZ⟩ := hrel
    by_cases hzl : z < zs.length
    · have hzl' : (z : Int) < (zs.length : Int) := by omega
      obtain ⟨x, HX, hx⟩ : ∃ x, Hid (dg zs z = x) ∧ w.cell? ⟨b, z, none⟩ = some (.int .u8 x) := ⟨_, rfl, by have := HR.out.1 z hzl; rwa [Nat.zero_add] at this⟩
      by_cases hx0 : x = 48
      · subst hx0
        have HZ2 : Hid (∀ j, j < z + 1 → dg zs j = 48) := fun j hj => by
          by_cases e : j = z
          · rw [e, HX.out]
          · exact HZ.out j (by omega)
        go_wp2
        go_round
        case rel => exact ⟨z + 1, by omega, by go_num, HZ2.out⟩
        case measure => simp [intOf]; omega
      · have hx0' : (x == 48) = false := by simpa using hx0
        have hne : ((z : Int) == (zs.length : Int)) = false := beq_eq_false_iff_ne.2 (by omega)
        go_wp2
        go_loop [7] (fun i => ∃ e : Nat, z < e ∧ e ≤ zs.length ∧ i = .int .i64 e ∧ Hid (∀ j, e ≤ j → j < zs.length → dg zs j = 48)) (fun i => (intOf i).toNat)
        case atStart => exact ⟨zs.length, hzl, Nat.le_refl _, rfl, fun j h1 h2 => by omega⟩
        case round =>
          obtain ⟨e, hze, hel, rfl, HE⟩ := hrel
          obtain ⟨m, rfl⟩ : ∃ m, e = m + 1 := ⟨e - 1, by omega⟩
          obtain ⟨y, HY, hy⟩ : ∃ y, Hid (dg zs m = y) ∧ w.cell? ⟨b, m, none⟩ = some (.int .u8 y) := ⟨_, rfl, by have := HR.out.1 m (by omega); rwa [Nat.zero_add] at this⟩
          by_cases hy0 : y = 48
          · subst hy0
            have hzm : z < m := by
              rcases Nat.lt_or_ge z m with h | h
              · exact h
              · exfalso
                obtain rfl : z = m := by omega
                exact hx0 (by rw [← HX.out, HY.out])
            have HE2 : Hid (∀ j, m ≤ j → j < zs.length → dg zs j = 48) := fun j h1 h2 => by
              by_cases e : j = m
              · rw [e, HY.out]
              · exact HE.out j (by omega) h2
            clear HE
            go_wp2
            go_round
            case rel => exact ⟨m, hzm, by omega, by go_num, HE2.out⟩
            case measure => simp [intOf]
          · have hy0' : (y == 48) = false := by simpa using hy0
            have HN : Hid _ := norm_mid P HR.out.2 HZ.out hze hel (by rw [HX.out]; exact hx0) HE.out
            obtain ⟨r, HRr, hcv⟩ := to_str (mid_row HR.out.1 (z := z) hel) (mid_dig HR.out.2 z (m + 1)) (c - z)
            rw [mid_length hel] at hcv
            go_wp2
            refine bodyPost_ret (results_tmp2 Try.results41 _ _ _) rfl ?_
            refine ⟨r, _, rfl, ⟨by rw [HRr.out]; exact HN.out, ?_⟩, rfl⟩
            rw [← nums_length, HRr.out, mid_length hel]; omega
    · obtain rfl : z = zs.length := by omega
      have hzz : decide ((zs.length : Int) < (zs.length : Int)) = false := decide_eq_false (by omega)
      have HN : Hid _ := norm_zero P HZ.out
      go_wp2
      refine bodyPost_ret (results_tmp2 Try.results41 _ _ _) rfl ?_
      exact ⟨_, _, rfl, ⟨HN.out, Nat.zero_le _⟩, rfl⟩

end Go.Proofs.Qxb6600033a
