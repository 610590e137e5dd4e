/-
  THE WALKS of Uint32, EncodeUint32, Encode, zzIsShortIntegerEncoding, zzEqualBytes.
-/
import Derived.Test.Qxb6002407aU32Plain
import Derived.Laws.BitsAllLaws
namespace Go.Proofs.Qxb6002407a
open Go.RowKit
set_option linter.unusedVariables false

theorem or_join (V x : Int) (hV : 0 ≤ V) (hV2 : V < 16777216) (hx : 0 ≤ x) (hx2 : x ≤ 255) : bits .or .u32 (V * 256) x = V * 256 + x := by
  rw [u32_or _ _ (by omega) (by omega) hx (by omega), nat_join 8 _ _ (by omega) (by omega)]
  omega
theorem val_snoc (l : List Int) (x : Int) : val (l ++ [x]) = val l * 256 + x := by simp [val]
theorem val_take_succ (zs : List Int) (k : Nat) (h : k < zs.length) : val (zs.take (k + 1)) = val (zs.take k) * 256 + zs.getD k 0 := by
  rw [List.take_succ_eq_append_getElem h, val_snoc]
  simp [List.getD_eq_getElem?_getD, h]
theorem val_take_bound (zs : List Int) (k : Nat) (hb : Bytes zs) (hk : k ≤ 3) : 0 ≤ val (zs.take k) ∧ val (zs.take k) < 16777216 := by
  have hbt : Bytes (zs.take k) := fun x hx => hb x (List.mem_of_mem_take hx)
  have hl : (zs.take k).length ≤ 3 := by rw [List.length_take]; omega
  generalize zs.take k = m at *
  match m, hl, hbt with
  | [], _, _ => simp [val]
  | [a], _, hb => have := hb a (by simp); simp [val]; omega
  | [a, b], _, hb => have := hb a (by simp); have := hb b (by simp); simp [val]; omega
  | [a, b, c], _, hb => have := hb a (by simp); have := hb b (by simp); have := hb c (by simp); simp [val]; omega
  | _ :: _ :: _ :: _ :: _, hl, _ => simp at hl
theorem Bytes.getD {zs : List Int} (hb : Bytes zs) (k : Nat) : 0 ≤ zs.getD k 0 ∧ zs.getD k 0 ≤ 255 := by
  by_cases h : k < zs.length
  · simp only [List.getD_eq_getElem?_getD, h, List.getElem?_eq_getElem, Option.getD_some]
    exact hb _ (List.getElem_mem h)
  · simp [List.getD_eq_getElem?_getD, List.getElem?_eq_none (Nat.le_of_not_lt h)]

/-- One round of 'v = v<<8 | uint32(b)'. -/
theorem val_round (zs : List Int) (k : Nat) (V x : Int) (hb : Bytes zs) (hk : k < zs.length) (h4 : zs.length ≤ 4) (hV : V = val (zs.take k)) (hx : zs.getD k 0 = x) :
    (0 ≤ V ∧ V < 16777216) ∧ (0 ≤ x ∧ x ≤ 255) ∧ bits .or .u32 (V * 256) x = val (zs.take (k + 1)) := by
  have h1 := val_take_bound zs k hb (by omega)
  have h2 := hb.getD k
  rw [hx] at h2
  rw [← hV] at h1
  refine ⟨h1, h2, ?_⟩
  rw [or_join V x h1.1 h1.2 h2.1 h2.2, val_take_succ zs k hk, hV, hx]

theorem tup_u32 {a b : Int} (h : a = b) : Ending.returned (.tuple #[.int .u32 a, .nilIface]) = .returned (.tuple #[.int .u32 b, .nilIface]) := by rw [h]

set_option maxHeartbeats 1000000 in
/-- 'Uint32' of a row whose first octet is 1 .. 127. -/
theorem u32_low (b off n c : Nat) (zs : List Int) (w : World) (hc : ∀ i, i < zs.length → w.cell? ⟨b, off + i, none⟩ = some (.int .u8 (zs.getD i 0))) (hl : zs.length = n) (hb : Bytes zs)
    (hok : okInt zs = true) (h1 : zs.headD 0 < 128) (h0 : zs.headD 0 ≠ 0) (h4 : zs.length ≤ 4) :
    Calls Try.prog 7 #[.slice (some ⟨b, off, none⟩) n c] w fun e w' => e = .returned (.tuple #[.int .u32 (val zs), .nilIface]) ∧ w' = w := by
  have HC : Hid (∀ i, i < zs.length → w.cell? ⟨b, off + i, none⟩ = some (.int .u8 (zs.getD i 0))) := hc
  have HH : Hid (zs.length = n ∧ Bytes zs ∧ okInt zs = true) := ⟨hl, hb, hok⟩
  obtain ⟨c0, hc0, hlt, hne⟩ : ∃ c0, w.cell? ⟨b, off, none⟩ = some (.int .u8 c0) ∧ c0 < 128 ∧ (c0 == 0) = false := by
    cases zs with
    | nil => simp [okInt] at hok
    | cons c0 r => exact ⟨c0, by simpa using hc 0 (by simp), by simpa using h1, by simpa using h0⟩
  have hn4 : n ≤ 4 := by omega
  have hn0 : (0 : Int) < (n : Int) := by
    cases zs with
    | nil => simp [okInt] at hok
    | cons c0 r => simp at hl; omega
  clear hc hl hb hok h1 h0 h4
  go_enter Try.func7, Try.ntmps7
  go_wp2_with (first | (go_at_call 13; refine (check_yes _ n c zs _ (.inr ⟨b, off, rfl, HC.out⟩) HH.out.1 HH.out.2.2).mono ?_; rintro e w2 ⟨rfl, hw2⟩; obtain rfl := hw2.symm; clear hw2) | go_in)
  go_loop [5, 32] (fun v k => ∃ (kk : Nat) (V : Int), kk ≤ n ∧ k = .int .i64 kk ∧ v = .int .u32 V ∧ Hid (V = val (zs.take kk))) (fun _ k => n - (intOf k).toNat)
  case atStart => exact ⟨0, 0, by omega, rfl, rfl, rfl⟩
  case round =>
    obtain ⟨kk, V, hk, rfl, rfl, HV⟩ := hrel
    by_cases hkl : kk < n
    · obtain ⟨x, HX, hx⟩ : ∃ x, Hid (zs.getD kk 0 = x) ∧ w.cell? ⟨b, off + kk, none⟩ = some (.int .u8 x) := ⟨_, rfl, HC.out kk (by rw [HH.out.1]; exact hkl)⟩
      obtain ⟨hV, hx2, HR0⟩ := val_round zs kk V x HH.out.2.1 (by rw [HH.out.1]; exact hkl) (by rw [HH.out.1]; omega) HV.out HX.out
      have HR : Hid (bits .or .u32 (V * 256) x = val (zs.take (kk + 1))) := HR0
      clear HR0
      go_wp2
      go_round
      case rel => exact ⟨kk + 1, _, by omega, by go_num, rfl, HR.out⟩
      case measure => simp [intOf]; omega
    · go_wp2
      go_ret2
      exact ⟨tup_u32 (by rw [HV.out, List.take_of_length_le (by rw [HH.out.1]; omega)]), rfl⟩

set_option maxHeartbeats 1000000 in
/-- 'Uint32' of a row that a zero octet opens. -/
theorem u32_zero (b off n c : Nat) (r : List Int) (w : World) (hc : ∀ i, i < (0 :: r).length → w.cell? ⟨b, off + i, none⟩ = some (.int .u8 ((0 :: r).getD i 0))) (hl : (0 :: r).length = n) (hcap : n ≤ c) (hb : Bytes r)
    (hok : okInt (0 :: r) = true) (h4 : r.length ≤ 4) :
    Calls Try.prog 7 #[.slice (some ⟨b, off, none⟩) n c] w fun e w' => e = .returned (.tuple #[.int .u32 (val r), .nilIface]) ∧ w' = w := by
  have HC : Hid (∀ i, i < (0 :: r).length → w.cell? ⟨b, off + i, none⟩ = some (.int .u8 ((0 :: r).getD i 0))) := hc
  have HR : Hid (∀ i, i < r.length → w.cell? ⟨b, off + 1 + i, none⟩ = some (.int .u8 (r.getD i 0))) := by
    intro i hi
    have := hc (i + 1) (by simp; omega)
    rw [show off + 1 + i = off + (i + 1) from by omega, this]
    simp
  have HH : Hid ((0 :: r).length = n ∧ Bytes r ∧ okInt (0 :: r) = true) := ⟨hl, hb, hok⟩
  have hc0 : w.cell? ⟨b, off, none⟩ = some (.int .u8 0) := by simpa using hc 0 (by simp)
  obtain ⟨m, HM, rfl⟩ : ∃ m, Hid (r.length = m) ∧ n = m + 1 := ⟨r.length, rfl, by simpa using hl.symm⟩
  have hm4 : m ≤ 4 := by rw [← HM.out]; exact h4
  clear hc hl hb hok h4
  go_enter Try.func7, Try.ntmps7
  go_wp2_with (first | (go_at_call 13; refine (check_yes _ (m + 1) c (0 :: r) _ (.inr ⟨b, off, rfl, HC.out⟩) HH.out.1 HH.out.2.2).mono ?_; rintro e w2 ⟨rfl, hw2⟩; obtain rfl := hw2.symm; clear hw2) | go_in)
  all_goals
    go_loop [5, 32] (fun v k => ∃ (kk : Nat) (V : Int), kk ≤ m ∧ k = .int .i64 kk ∧ v = .int .u32 V ∧ Hid (V = val (r.take kk))) (fun _ k => m - (intOf k).toNat)
    case atStart => exact ⟨0, 0, by omega, rfl, rfl, rfl⟩
    case round =>
      obtain ⟨kk, V, hk, rfl, rfl, HV⟩ := hrel
      by_cases hkl : kk < m
      · first
        | (exfalso; have : c = 1 := by assumption
           omega)
        | obtain ⟨x, HX, hx⟩ : ∃ x, Hid (r.getD kk 0 = x) ∧ w.cell? ⟨b, off + 1 + kk, none⟩ = some (.int .u8 x) := ⟨_, rfl, HR.out kk (by rw [HM.out]; exact hkl)⟩
          obtain ⟨hV, hx2, HR0⟩ := val_round r kk V x HH.out.2.1 (by rw [HM.out]; exact hkl) (by rw [HM.out]; omega) HV.out HX.out
          have HR1 : Hid (bits .or .u32 (V * 256) x = val (r.take (kk + 1))) := HR0
          clear HR0
          go_wp2
          go_round
          case rel => exact ⟨kk + 1, _, by omega, by go_num, rfl, HR1.out⟩
          case measure => simp [intOf]; omega
      · go_wp2
        go_ret2
        exact ⟨tup_u32 (by rw [HV.out, List.take_of_length_le (by rw [HM.out]; omega)]), rfl⟩

theorem okInt_ne {zs : List Int} (h : okInt zs = true) : zs ≠ [] := by rintro rfl; simp [okInt] at h

/-- 'Uint32' of what it accepts. -/
theorem u32_yes (ao : Option Addr) (n c : Nat) (zs : List Int) (w : World) (hs : Seq w ao zs) (hl : zs.length = n) (hcap : n ≤ c) (hb : Bytes zs) (hok : okU zs = true) :
    Calls Try.prog 7 #[.slice ao n c] w fun e w' => e = .returned (.tuple #[.int .u32 (val (strip zs)), .nilIface]) ∧ w' = w := by
  simp only [okU, Bool.and_eq_true, decide_eq_true_eq] at hok
  obtain ⟨⟨h1, h2⟩, h3⟩ := hok
  rcases hs with rfl | ⟨b, off, rfl, hc⟩
  · exact absurd rfl (okInt_ne h1)
  match zs, hl, h1, h2, h3, hc, hb with
  | [], _, h1, _, _, _, _ => exact absurd rfl (okInt_ne h1)
  | c0 :: r, hl, h1, h2, h3, hc, hb =>
    by_cases e : c0 = 0
    · subst e
      exact u32_zero b off n c r w hc hl hcap (fun x hx => hb x (List.mem_cons_of_mem _ hx)) h1 h3
    · have : strip (c0 :: r) = c0 :: r := by unfold strip; split; (rename_i h; simp at h; exact absurd h.1 e); rfl
      rw [this] at h3 ⊢
      exact u32_low b off n c (c0 :: r) w hc hl hb h1 h2 (by simpa using e) h3

theorem u32_check (ao : Option Addr) (n c : Nat) (zs : List Int) (w : World) (hs : Seq w ao zs) (hl : zs.length = n) (hok : okInt zs = false) :
    Calls Try.prog 7 #[.slice ao n c] w fun e w' => (∃ p, e = .returned (.tuple #[.int .u32 0, .iface 40 (.pointer (some p))])) ∧ Below w.heap.size w w' := by
  have HS : Hid (Seq w ao zs ∧ zs.length = n ∧ okInt zs = false) := ⟨hs, hl, hok⟩
  clear hs hl hok
  go_enter Try.func7, Try.ntmps7
  go_wp2_with (first | (go_at_call 13; refine (check_no ao n c zs _ HS.out.1 HS.out.2.1 HS.out.2.2).mono ?_; rintro e w2 ⟨⟨p, rfl⟩, hb2⟩) | go_in)
  go_ret2
  exact ⟨⟨_, rfl⟩, hb2⟩

theorem u32_neg (b off n c : Nat) (c0 : Int) (r : List Int) (w : World) (hc : ∀ i, i < (c0 :: r).length → w.cell? ⟨b, off + i, none⟩ = some (.int .u8 ((c0 :: r).getD i 0))) (hl : (c0 :: r).length = n)
    (hok : okInt (c0 :: r) = true) (h1 : 128 ≤ c0) :
    Calls Try.prog 7 #[.slice (some ⟨b, off, none⟩) n c] w fun e w' => (∃ p, e = .returned (.tuple #[.int .u32 0, .iface 40 (.pointer (some p))])) ∧ Below w.heap.size w w' := by
  have HS : Hid (Seq w (some ⟨b, off, none⟩) (c0 :: r) ∧ (c0 :: r).length = n ∧ okInt (c0 :: r) = true) := ⟨.inr ⟨b, off, rfl, hc⟩, hl, hok⟩
  have hc0 : w.cell? ⟨b, off, none⟩ = some (.int .u8 c0) := by simpa using hc 0 (by simp)
  have hn0 : (0 : Int) < (n : Int) := by simp at hl; omega
  clear hc hl hok
  go_enter Try.func7, Try.ntmps7
  go_wp2_with (first | (go_at_call 13; refine (check_yes _ n c (c0 :: r) _ HS.out.1 HS.out.2.1 HS.out.2.2).mono ?_; rintro e w2 ⟨rfl, hw2⟩; obtain rfl := hw2.symm; clear hw2) | go_in)
  go_ret2
  exact ⟨⟨_, rfl⟩, (Below.refl _ _).alloc (Nat.le_refl _) _⟩

theorem u32_wide (b off n c : Nat) (c0 : Int) (r : List Int) (w : World) (hc : ∀ i, i < (c0 :: r).length → w.cell? ⟨b, off + i, none⟩ = some (.int .u8 ((c0 :: r).getD i 0))) (hl : (c0 :: r).length = n) (hcap : n ≤ c) (hm : n ≤ maxLen)
    (hok : okInt (c0 :: r) = true) (h1 : c0 < 128) (h4 : 4 < (strip (c0 :: r)).length) :
    Calls Try.prog 7 #[.slice (some ⟨b, off, none⟩) n c] w fun e w' => (∃ p, e = .returned (.tuple #[.int .u32 0, .iface 40 (.pointer (some p))])) ∧ Below w.heap.size w w' := by
  unfold maxLen at hm
  have HS : Hid (Seq w (some ⟨b, off, none⟩) (c0 :: r) ∧ (c0 :: r).length = n ∧ okInt (c0 :: r) = true) := ⟨.inr ⟨b, off, rfl, hc⟩, hl, hok⟩
  have hc0 : w.cell? ⟨b, off, none⟩ = some (.int .u8 c0) := by simpa using hc 0 (by simp)
  have hn0 : (0 : Int) < (n : Int) := by simp at hl; omega
  by_cases e : c0 = 0
  · subst e
    have hn5 : 5 < n := by simp [strip] at h4; simp at hl; omega
    clear hc hl hok h4
    go_enter Try.func7, Try.ntmps7
    go_wp2_with (first | (go_at_call 13; refine (check_yes _ n c (0 :: r) _ HS.out.1 HS.out.2.1 HS.out.2.2).mono ?_; rintro e w2 ⟨rfl, hw2⟩; obtain rfl := hw2.symm; clear hw2) | go_in)
    all_goals
      go_ret2
      exact ⟨⟨_, rfl⟩, (Below.refl _ _).alloc (Nat.le_refl _) _⟩
  · have : strip (c0 :: r) = c0 :: r := by unfold strip; split; (rename_i h; simp at h; exact absurd h.1 e); rfl
    rw [this] at h4
    have hn4 : 4 < n := by omega
    have hne : (c0 == 0) = false := by simpa using e
    clear hc hl hok h4 this e
    go_enter Try.func7, Try.ntmps7
    go_wp2_with (first | (go_at_call 13; refine (check_yes _ n c (c0 :: r) _ HS.out.1 HS.out.2.1 HS.out.2.2).mono ?_; rintro e w2 ⟨rfl, hw2⟩; obtain rfl := hw2.symm; clear hw2) | go_in)
    all_goals
      go_ret2
      exact ⟨⟨_, rfl⟩, (Below.refl _ _).alloc (Nat.le_refl _) _⟩

/-- 'Uint32' of what it refuses. -/
theorem u32_no (ao : Option Addr) (n c : Nat) (zs : List Int) (w : World) (hs : Seq w ao zs) (hl : zs.length = n) (hcap : n ≤ c) (hm : n ≤ maxLen) (hok : okU zs = false) :
    Calls Try.prog 7 #[.slice ao n c] w fun e w' => (∃ p, e = .returned (.tuple #[.int .u32 0, .iface 40 (.pointer (some p))])) ∧ Below w.heap.size w w' := by
  cases h : okInt zs
  · exact u32_check ao n c zs w hs hl h
  · simp only [okU, h, Bool.true_and, Bool.and_eq_false_iff, decide_eq_false_iff_not] at hok
    rcases hs with rfl | ⟨b, off, rfl, hc⟩
    · exact absurd rfl (okInt_ne h)
    match zs, hl, h, hok, hc with
    | [], _, h, _, _ => exact absurd rfl (okInt_ne h)
    | c0 :: r, hl, h, hok, hc =>
      by_cases h2 : 128 ≤ c0
      · exact u32_neg b off n c c0 r w hc hl h h2
      · refine u32_wide b off n c c0 r w hc hl hcap hm h (by omega) ?_
        rcases hok with h' | h'
        · exact absurd h' (by simp; omega)
        · omega
end Go.Proofs.Qxb6002407a
