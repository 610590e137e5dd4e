/-
  THE WALK OF 'FnCheckIntegerAcceptsExactlyTheShortest'.
-/
import Derived.Test.Qxb6002407aCkPlain
namespace Go.Proofs.Qxb6002407a
open Go.RowKit
set_option linter.unusedVariables false

theorem Seq.at {w : World} {b off : Nat} {zs : List Int} {i : Nat} (h : ∀ i, i < zs.length → w.cell? ⟨b, off + i, none⟩ = some (.int .u8 (zs.getD i 0))) (hi : i < zs.length) :
    ∃ x, Hid (zs.getD i 0 = x) ∧ w.cell? ⟨b, off + i, none⟩ = some (.int .u8 x) := ⟨_, rfl, h i hi⟩

theorem fill_hi {c : Int} (h : 128 ≤ c) : fillOf c = 255 := by simp [fillOf, h]
theorem fill_lo {c : Int} (h : ¬ 128 ≤ c) : fillOf c = 0 := by simp [fillOf, h]

set_option maxHeartbeats 1000000 in
theorem ck_short (ao : Option Addr) (n c : Nat) (zs : List Int) (w : World) (hs : Seq w ao zs) (hl : zs.length = n) (hn : n ≤ 1024) (h0 : ao = none → c = 0 ∧ n = 0) (hpos : 0 < n) :
    Calls Try.prog 4 #[.slice ao n c] w fun e w' => e = .returned (.bool true) ∧ Below w.heap.size w w' := by
  have Hs : Hid (Seq w ao zs ∧ zs.length = n ∧ (ao = none → c = 0 ∧ n = 0)) := ⟨hs, hl, h0⟩
  clear hs hl h0
  have g1 : ((1048576 : Int) < (n : Int)) = False := by simp; omega
  have g2 : ((1024 : Int) < (n : Int)) = False := by simp; omega
  go_enter Try.func4, Try.ntmps4
  go_wp2_with (first | (go_at_call 6; refine (clone_any ao n c zs _ Hs.out.1 Hs.out.2.1 (by omega) Hs.out.2.2).mono ?_; rintro e w1 ⟨a1, rfl, hs1, hb1⟩; have Hs1 : Hid (Seq w1 a1 zs ∧ Below w.heap.size w w1) := ⟨hs1, hb1⟩; clear hs1 hb1) | go_in)
  go_loop [3, 4] (fun x k => ∃ (b : Bool) (kk : Nat), x = .bool b ∧ k = .int .i64 kk ∧ 1 ≤ kk ∧ (kk ≤ n ∨ kk = 1) ∧ Hid (b = wantB zs kk)) (fun _ k => n - (intOf k).toNat)
  case atStart => exact ⟨true, 1, by simp, rfl, by omega, .inr rfl, by show true = wantB zs 1; rw [wantB_one, Hs.out.2.1]; simp [hpos]⟩
  case round =>
    obtain ⟨b, kk, rfl, rfl, hk1, hk2, Hb⟩ := hrel
    have hk3 : kk ≤ n := by omega
    clear hk2
    by_cases hend : kk = n ∨ b = false
    · have Hend := want_done zs kk hk1 (.inl (by rw [Hs.out.2.1]; exact hk3)) (by rcases hend with h | h; (exact .inl (by rw [Hs.out.2.1]; omega)); (exact .inr (by rw [← Hb.out, h])))
      rw [← Hb.out] at Hend
      have HE : Hid (b = okInt zs) := Hend
      clear Hend Hb
      have hcond : (decide ((kk : Int) < (n : Int)) && b) = false := by
        rcases hend with h | h
        · subst h; simp
        · simp [h]
      clear hend
      cases b
      · by_cases hlt : kk < n
        all_goals
          go_wp2_with (first | (go_at_call 13; refine (check_no a1 n n zs _ Hs1.out.1 Hs.out.2.1 HE.out.symm).mono ?_; rintro e w2 ⟨⟨p, rfl⟩, hb2⟩) | go_in)
          go_ret
          exact ⟨rfl, Hs1.out.2.trans (hb2.mono Hs1.out.2.size)⟩
      · have hlt : ¬ kk < n := by simpa using hcond
        clear hcond
        go_wp2_with (first | (go_at_call 13; refine (check_yes a1 n n zs _ Hs1.out.1 Hs.out.2.1 HE.out.symm).mono ?_; rintro e w2 ⟨rfl, rfl⟩) | go_in)
        go_ret
        exact ⟨rfl, Hs1.out.2⟩
    · have hlt : kk < n := by omega
      have hbt : b = true := by cases b <;> simp_all
      subst hbt
      clear hend
      have HB : Hid (wantB zs (kk + 1) = !sameB zs kk kk) := by show _ = _; rw [wantB_succ _ _ hk1, ← Hb.out]; rfl
      clear Hb
      obtain ⟨b, off, rfl, hc⟩ : ∃ b off, a1 = some ⟨b, off, none⟩ ∧ ∀ i, i < zs.length → w1.cell? ⟨b, off + i, none⟩ = some (.int .u8 (zs.getD i 0)) := by
        rcases Hs1.out.1 with h | h
        · have := Hs.out.2.1; rw [h] at this; simp at this; omega
        · exact h
      have HC : Hid (∀ i, i < zs.length → w1.cell? ⟨b, off + i, none⟩ = some (.int .u8 (zs.getD i 0))) := hc
      obtain ⟨ck, HCK, hck⟩ := Seq.at hc (show kk < zs.length by rw [Hs.out.2.1]; exact hlt)
      clear hc
      by_cases hhi : 128 ≤ ck
      · have HF : Hid (fillOf (zs.getD kk 0) = 255) := by show _ = _; rw [HCK.out]; exact fill_hi hhi
        clear HCK
        go_wp2
        go_loop [6, 7] (fun s j => ∃ (t : Bool) (jj : Nat), s = .bool t ∧ j = .int .i64 jj ∧ jj ≤ kk ∧ Hid (t = sameB zs kk jj)) (fun _ j => kk - (intOf j).toNat)
        case atStart => exact ⟨true, 0, rfl, rfl, by omega, rfl⟩
        case round =>
          obtain ⟨t, jj, rfl, rfl, hj, HT⟩ := hrel
          by_cases hjl : jj < kk
          · obtain ⟨cj, HCJ, hcj⟩ := Seq.at HC.out (show jj < zs.length by rw [Hs.out.2.1]; omega)
            have HS : Hid (sameB zs kk (jj + 1) = (t && (cj == 255))) := by show _ = _; rw [sameB_succ, HF.out, HCJ.out, HT.out]
            clear HT HCJ
            by_cases hne : cj = 255
            · subst hne
              go_wp2
              go_round
              case rel => exact ⟨t, jj + 1, rfl, by go_num, by omega, by show _ = _; rw [HS.out]; simp⟩
              case measure => simp [intOf]; omega
            · have hne' : (cj != 255) = true := by simpa using hne
              go_wp2
              go_round
              case rel => exact ⟨false, jj + 1, rfl, by go_num, by omega, by show _ = _; rw [HS.out]; simp [hne]⟩
              case measure => simp [intOf]; omega
          · obtain rfl : jj = kk := by omega
            cases t
            all_goals
              go_wp2
              go_round
              case rel => exact ⟨_, jj + 1, rfl, by go_num, by omega, .inl (by omega), by show _ = _; rw [HB.out, ← HT.out]; rfl⟩
              case measure => simp [intOf]; omega
      · have HF : Hid (fillOf (zs.getD kk 0) = 0) := by show _ = _; rw [HCK.out]; exact fill_lo hhi
        clear HCK
        go_wp2
        go_loop [6, 7] (fun s j => ∃ (t : Bool) (jj : Nat), s = .bool t ∧ j = .int .i64 jj ∧ jj ≤ kk ∧ Hid (t = sameB zs kk jj)) (fun _ j => kk - (intOf j).toNat)
        case atStart => exact ⟨true, 0, rfl, rfl, by omega, rfl⟩
        case round =>
          obtain ⟨t, jj, rfl, rfl, hj, HT⟩ := hrel
          by_cases hjl : jj < kk
          · obtain ⟨cj, HCJ, hcj⟩ := Seq.at HC.out (show jj < zs.length by rw [Hs.out.2.1]; omega)
            have HS : Hid (sameB zs kk (jj + 1) = (t && (cj == 0))) := by show _ = _; rw [sameB_succ, HF.out, HCJ.out, HT.out]
            clear HT HCJ
            by_cases hne : cj = 0
            · subst hne
              go_wp2
              go_round
              case rel => exact ⟨t, jj + 1, rfl, by go_num, by omega, by show _ = _; rw [HS.out]; simp⟩
              case measure => simp [intOf]; omega
            · have hne' : (cj != 0) = true := by simpa using hne
              go_wp2
              go_round
              case rel => exact ⟨false, jj + 1, rfl, by go_num, by omega, by show _ = _; rw [HS.out]; simp [hne]⟩
              case measure => simp [intOf]; omega
          · obtain rfl : jj = kk := by omega
            cases t
            all_goals
              go_wp2
              go_round
              case rel => exact ⟨_, jj + 1, rfl, by go_num, by omega, .inl (by omega), by show _ = _; rw [HB.out, ← HT.out]; rfl⟩
              case measure => simp [intOf]; omega

theorem ck_empty (ao : Option Addr) (c : Nat) (w : World) (h0 : ao = none → c = 0) :
    Calls Try.prog 4 #[.slice ao 0 c] w fun e w' => e = .returned (.bool true) ∧ Below w.heap.size w w' := by
  have H0 : Hid (ao = none → c = 0 ∧ (0 : Nat) = 0) := fun h => ⟨h0 h, rfl⟩
  clear h0
  go_enter Try.func4, Try.ntmps4
  go_wp2_with (first | (go_at_call 6; refine (clone_any ao 0 c [] _ (.inl rfl) rfl (by omega) H0.out).mono ?_; rintro e w1 ⟨a1, rfl, hs1, hb1⟩; have Hb1 : Hid (Below w.heap.size w w1) := hb1; clear hs1 hb1) | go_in)
  go_loop [3, 4] (fun x k => x = .bool false ∧ k = .int .i64 1) (fun _ k => 0)
  case atStart => exact ⟨rfl, rfl⟩
  case round =>
    obtain ⟨rfl, rfl⟩ := hrel
    go_wp2_with (first | (go_at_call 13; refine (check_no a1 0 0 [] _ (.inl rfl) rfl rfl).mono ?_; rintro e w2 ⟨⟨p, rfl⟩, hb2⟩) | go_in)
    go_ret
    exact ⟨rfl, Hb1.out.trans (hb2.mono Hb1.out.size)⟩

theorem ck_long (ao : Option Addr) (n c : Nat) (w : World) (hn : 1024 < n) (hm : n ≤ maxLen) :
    Calls Try.prog 4 #[.slice ao n c] w fun e w' => e = .returned (.bool true) ∧ Below w.heap.size w w' := by
  unfold maxLen at hm
  by_cases h : 1048576 < n
  · go_enter Try.func4, Try.ntmps4
    go_wp2
    go_ret
    exact ⟨rfl, Below.refl _ _⟩
  · go_enter Try.func4, Try.ntmps4
    go_wp2
    go_ret
    exact ⟨rfl, Below.refl _ _⟩

theorem ck_any (ao : Option Addr) (n c : Nat) (zs : List Int) (w : World) (hs : Seq w ao zs) (hl : zs.length = n) (hm : n ≤ maxLen) (h0 : ao = none → c = 0 ∧ n = 0) :
    Calls Try.prog 4 #[.slice ao n c] w fun e w' => e = .returned (.bool true) ∧ Below w.heap.size w w' := by
  by_cases h1 : 1024 < n
  · exact ck_long ao n c w h1 hm
  · rcases Nat.eq_zero_or_pos n with h | h
    · subst h; exact ck_empty ao c w (fun e => (h0 e).1)
    · exact ck_short ao n c zs w hs hl (by omega) h0 h
end Go.Proofs.Qxb6002407a
