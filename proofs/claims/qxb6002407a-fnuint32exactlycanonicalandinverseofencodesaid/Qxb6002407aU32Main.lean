/-
  THE WALK OF 'FnUint32ExactlyCanonicalAndInverseOfEncode'.
-/
import Derived.Test.Qxb6002407aEncWalk
namespace Go.Proofs.Qxb6002407a
open Go.RowKit
set_option linter.unusedVariables false
set_option maxRecDepth 100000

theorem own_cap {w : World} {B n g cap : Nat} {xs : List Value} (h : w.ownsRow B 5 1 (.slice (some ⟨g, 0, none⟩) n cap) n xs) : n ≤ cap := by
  rcases h.2 with ⟨h', _⟩ | ⟨g', cap', cur, h', _, _, hnc, _⟩
  · simp at h'
  · simp only [Value.slice.injEq, Option.some.injEq, Addr.mk.injEq, and_true, true_and] at h'
    obtain ⟨rfl, rfl⟩ := h'
    exact hnc

theorem encU_row (v : Int) (zs : List Int) (n : Nat) (w : World) (h0 : 0 ≤ v) (h2 : v < 4294967296) (hz : enc v = zs) (hn : zs.length = n) :
    Calls Try.prog 9 #[.int .u32 v] w fun e w' => ∃ g cap, e = .returned (.slice (some ⟨g, 0, none⟩) (2 + n) cap) ∧ 2 + n ≤ cap ∧ w'.cell? ⟨g, 0, none⟩ = some (.int .u8 2) ∧ w'.cell? ⟨g, 1, none⟩ = some (.int .u8 (n : Int)) ∧
      (∀ i, i < zs.length → w'.cell? ⟨g, 2 + i, none⟩ = some (.int .u8 (zs.getD i 0))) ∧ Below w.heap.size w w' := by
  refine (encU_any v w h0 h2).mono ?_
  rintro e w' ⟨s, rfl, hs, hb⟩
  rw [hz, hn] at hs
  obtain ⟨g, cap, rfl⟩ := own_row hs (by omega)
  have hc := own_cell hs
  refine ⟨g, cap, rfl, own_cap hs, ?_, ?_, fun i hi => ?_, hb⟩
  · simpa using hc 0 (by simp)
  · simpa using hc 1 (by simp)
  · have := hc (i + 2) (by simp; omega)
    rw [show 2 + i = 0 + (i + 2) from by omega, this]
    simp

theorem u32_yes' (ao : Option Addr) (n c : Nat) (zs : List Int) (G : Int) (w : World) (hs : Seq w ao zs) (hl : zs.length = n) (hcap : n ≤ c) (hb : Bytes zs) (hok : okU zs = true) (hG : val (strip zs) = G) :
    Calls Try.prog 7 #[.slice ao n c] w fun e w' => e = .returned (.tuple #[.int .u32 G, .nilIface]) ∧ w' = w := by
  rw [← hG]; exact u32_yes ao n c zs w hs hl hcap hb hok

/-- What the law's last part goes through: EncodeUint32(v), its contents, Uint32 of them. Stated for the walk as facts on v. -/
theorem last_facts (v : Int) (h0 : 0 ≤ v) (h2 : v < 4294967296) : ∃ l m, enc v = l ∧ l.length = m ∧ 1 ≤ m ∧ m ≤ 5 ∧ Bytes l ∧ okU l = true ∧ val (strip l) = v := by
  have h := enc_facts v h0 h2
  exact ⟨enc v, _, rfl, rfl, h.2.2.2.1, h.2.2.2.2, h.2.2.1, h.1, h.2.1⟩

theorem cells_below {w w' : World} {b off : Nat} {zs : List Int} (h : ∀ i, i < zs.length → w.cell? ⟨b, off + i, none⟩ = some (.int .u8 (zs.getD i 0))) (hb : Below w.heap.size w w') :
    ∀ i, i < zs.length → w'.cell? ⟨b, off + i, none⟩ = some (.int .u8 (zs.getD i 0)) := fun i hi => by
  have := h i hi
  rw [hb.cell (World.block_lt_of_cell? w _ this)]
  exact this

/-- What the model's branch comes to: k zero octets, then q others. -/
theorem want_at (zs : List Int) (k q : Nat) (hb : Bytes zs) (hk : k = lead zs) (hl : zs.length = k + q) : okU zs = (decide (q ≤ 4) && decide (k = padOf (zs.drop k))) ∧ val zs = val (zs.drop k) := by
  refine ⟨?_, by rw [hk, val_lead]⟩
  rw [ok_want zs hb, wantU, ← hk, List.length_drop, hl, show k + q - k = q from by omega]

theorem yes_facts (zs : List Int) (hb : Bytes zs) (hok : okU zs = true) : 0 ≤ val zs ∧ val zs < 4294967296 ∧ val (strip zs) = val zs ∧ enc (val zs) = zs := by
  have hw : wantU zs = true := by rw [← ok_want zs hb]; exact hok
  have h4 : (zs.drop (lead zs)).length ≤ 4 := by simp only [wantU, Bool.and_eq_true, decide_eq_true_eq] at hw; exact hw.1
  have hv := val_bound _ h4 (fun x hx => hb x (List.mem_of_mem_drop hx))
  rw [val_lead] at hv
  exact ⟨hv.1, hv.2, val_strip zs, enc_of_want zs hb hw⟩

theorem drop_cons {zs : List Int} {k : Nat} {x : Int} (h : k < zs.length) (hx : zs.getD k 0 = x) : ∃ r, zs.drop k = x :: r := by
  refine ⟨zs.drop (k + 1), ?_⟩
  rw [List.drop_eq_getElem_cons h]
  simp [List.getD_eq_getElem?_getD, h] at hx
  rw [hx]

theorem getD_drop' (zs : List Int) (k j : Nat) : (zs.drop k).getD j 0 = zs.getD (k + j) 0 := by simp [List.getD_eq_getElem?_getD]

set_option maxHeartbeats 8000000 in
theorem u32_main (ao : Option Addr) (n c : Nat) (zs : List Int) (v : Int) (w : World) (hs : Seq w ao zs) (hl : zs.length = n) (hn : n ≤ 1048576) (h0 : ao = none → c = 0 ∧ n = 0) (hpos : 0 < n) (hb : Bytes zs) (hv0 : 0 ≤ v) (hv2 : v < 4294967296) :
    Calls Try.prog 3 #[.slice ao n c, .int .u32 v] w fun e w' => e = .returned (.bool true) ∧ Below w.heap.size w w' := by
  have Hs : Hid (Seq w ao zs ∧ zs.length = n ∧ (ao = none → c = 0 ∧ n = 0) ∧ Bytes zs) := ⟨hs, hl, h0, hb⟩
  clear hs hl h0 hb
  have g1 : ((1048576 : Int) < (n : Int)) = False := by simp; omega
  go_enter Try.func3, Try.ntmps3
  go_wp2_with (first | (go_at_call 6; refine (clone_any ao n c zs _ Hs.out.1 Hs.out.2.1 (by omega) Hs.out.2.2.1).mono ?_; rintro e w1 ⟨a1, rfl, hs1, hb1⟩; have Hs1 : Hid (Seq w1 a1 zs ∧ Below w.heap.size w w1) := ⟨hs1, hb1⟩; clear hs1 hb1) | go_in)
  obtain ⟨b, off, rfl, hc⟩ : ∃ b off, a1 = some ⟨b, off, none⟩ ∧ ∀ i, i < zs.length → w1.cell? ⟨b, off + i, none⟩ = some (.int .u8 (zs.getD i 0)) := by
    rcases Hs1.out.1 with h | h
    · have := Hs.out.2.1; rw [h] at this; simp at this; omega
    · exact h
  have HC : Hid (∀ i, i < zs.length → w1.cell? ⟨b, off + i, none⟩ = some (.int .u8 (zs.getD i 0))) := hc
  clear hc
  go_loop [5] (fun i => ∃ k : Nat, i = .int .i64 k ∧ k ≤ n ∧ Hid (∀ j, j < k → zs.getD j 0 = 0)) (fun i => n - (intOf i).toNat)
  case atStart => exact ⟨0, rfl, by omega, fun j hj => by omega⟩
  case round =>
    obtain ⟨k, rfl, hk, HZ⟩ := hrel
    by_cases hk2 : k < n
    · obtain ⟨x, HX, hx⟩ : ∃ x, Hid (zs.getD k 0 = x) ∧ w1.cell? ⟨b, off + k, none⟩ = some (.int .u8 x) := ⟨_, rfl, HC.out k (by rw [Hs.out.2.1]; exact hk2)⟩
      by_cases hx0 : x = 0
      · subst hx0
        have HZ1 : Hid (∀ j, j < k + 1 → zs.getD j 0 = 0) := fun j hj => by
          by_cases e : j = k
          · rw [e]; exact HX.out
          · exact HZ.out j (by omega)
        go_wp2
        go_round
        case rel => exact ⟨k + 1, by go_num, by omega, HZ1.out⟩
        case measure => simp [intOf]; omega
      · have hx0' : (x == 0) = false := by simpa using hx0
        have HK : Hid (k = lead zs) := lead_is zs k (by rw [Hs.out.2.1]; exact hk) HZ.out (.inr (by rw [HX.out]; exact hx0))
        obtain ⟨q, rfl⟩ : ∃ q, n = k + q := ⟨n - k, by omega⟩
        obtain ⟨r, hr⟩ := drop_cons (show k < zs.length by rw [Hs.out.2.1]; exact hk2) HX.out
        have HWA : Hid (_ ∧ _) := want_at zs k q Hs.out.2.2.2 HK.out Hs.out.2.1
        by_cases hq4 : 4 < q
        · have HOK : Hid (okU zs = false) := by
            show _ = _
            rw [HWA.out.1]
            simp; omega
          clear hr
          go_wp2_with fail
          refine (u32_no _ (k + q) (k + q) zs _ (.inr ⟨b, off, rfl, HC.out⟩) Hs.out.2.1 (Nat.le_refl _) (by unfold maxLen; omega) HOK.out).mono ?_
          rintro e w2 ⟨⟨p, rfl⟩, hb2⟩
          have HW : Hid (Below w.heap.size w w2) := Hs1.out.2.trans (hb2.mono Hs1.out.2.size)
          clear hb2
          obtain ⟨l, m, e1, e2, hm1, hm5, e3, e4, e5⟩ := last_facts v hv0 hv2
          have HL : Hid (enc v = l ∧ l.length = m ∧ Bytes l ∧ okU l = true ∧ val (strip l) = v) := ⟨e1, e2, e3, e4, e5⟩
          clear e1 e2 e3 e4 e5
          go_wp2_with fail
          refine (encU_row v l m _ hv0 hv2 HL.out.1 HL.out.2.1).mono ?_
          rintro e w6 ⟨g', cap', rfl, hcap', hd0, hd1, hdl, hb6⟩
          have HD : Hid ((∀ i, i < l.length → w6.cell? ⟨g', 2 + i, none⟩ = some (.int .u8 (l.getD i 0))) ∧ Below w.heap.size w w6) := ⟨hdl, HW.out.trans (hb6.mono HW.out.size)⟩
          clear hdl hb6
          go_wp2_with fail
          refine (short_yes g' m cap' l _ hd0 hd1 hm1 hm5 hcap').mono ?_
          rintro e w7 ⟨rfl, hw7⟩
          obtain rfl := hw7.symm
          clear hw7
          go_wp2_with fail
          refine (u32_yes' (some ⟨g', 2, none⟩) m (cap' - 2) l v _ (.inr ⟨g', 2, rfl, HD.out.1⟩) HL.out.2.1 (by omega) HL.out.2.2.1 HL.out.2.2.2.1 HL.out.2.2.2.2).mono ?_
          rintro e w8 ⟨rfl, hw8⟩
          obtain rfl := hw8.symm
          clear hw8
          go_wp2
          go_ret
          exact ⟨rfl, HD.out.2⟩

        · have hq4' : q ≤ 4 := by omega
          have hq0 : ((q : Int) == 0) = false := by simp; omega
          by_cases hhi : 128 ≤ x
          · have HPAD : Hid (padOf (zs.drop k) = 1) := by show _ = _; rw [hr]; simp [padOf, hhi]
            clear hr
            by_cases hwant : k = 1
            · have hwb : ((k : Int) == 1) = true := by simp; omega
              have HOK : Hid (okU zs = true) := by
                show _ = _
                rw [HWA.out.1, HPAD.out]; simp; omega
              have hk1 : k ≤ 1 := by omega
              clear hwant
              go_wp2_with fail
              go_loop [8, 10] (fun x j => ∃ (jj : Nat) (V : Int), jj ≤ q ∧ j = .int .i64 jj ∧ x = .int .u32 V ∧ Hid (V = val ((zs.drop k).take jj))) (fun _ j => q - (intOf j).toNat)
              case atStart => exact ⟨0, 0, by omega, rfl, rfl, rfl⟩
              case round =>
                obtain ⟨jj, V, hj, rfl, rfl, HV⟩ := hrel
                by_cases hjl : jj < q
                · obtain ⟨y, HY, hy⟩ : ∃ y, Hid ((zs.drop k).getD jj 0 = y) ∧ w1.cell? ⟨b, off + k + jj, none⟩ = some (.int .u8 y) := by
                    refine ⟨_, rfl, ?_⟩
                    have := HC.out (k + jj) (by rw [Hs.out.2.1]; omega)
                    rw [getD_drop', Nat.add_assoc]; exact this
                  obtain ⟨hV, hy2, HR0⟩ := val_round (zs.drop k) jj V y (fun x hx => Hs.out.2.2.2 x (List.mem_of_mem_drop hx)) (by rw [List.length_drop, Hs.out.2.1]; omega) (by rw [List.length_drop, Hs.out.2.1]; omega) HV.out HY.out
                  have HR1 : Hid (bits .or .u32 (V * 256) y = val ((zs.drop k).take (jj + 1))) := HR0
                  clear HR0
                  go_wp2
                  go_round
                  case rel => exact ⟨jj + 1, _, by omega, by go_num, rfl, HR1.out⟩
                  case measure => simp [intOf]; omega
                · obtain rfl : jj = q := by omega
                  have HVz : V = val zs := by rw [HV.out, List.take_of_length_le (by rw [List.length_drop, Hs.out.2.1]; omega)]; exact HWA.out.2.symm
                  have hyf := yes_facts zs Hs.out.2.2.2 HOK.out
                  rw [← HVz] at hyf
                  obtain ⟨hV0, hV2, hV3, hV4⟩ := hyf
                  clear HV
                  have HV : Hid (val (strip zs) = V ∧ enc V = zs) := ⟨hV3, hV4⟩
                  clear hV3 hV4 HVz
                  go_wp2_with fail
                  refine (u32_yes' _ (k + jj) (k + jj) zs V _ (.inr ⟨b, off, rfl, HC.out⟩) Hs.out.2.1 (Nat.le_refl _) Hs.out.2.2.2 HOK.out HV.out.1).mono ?_
                  rintro e w2 ⟨rfl, hw2⟩
                  obtain rfl := hw2.symm
                  clear hw2
                  go_wp2_with fail
                  refine (encU_row V zs (k + jj) _ hV0 hV2 HV.out.2 Hs.out.2.1).mono ?_
                  rintro e w3 ⟨g, cap, rfl, hcap, hc0, hc1, hcl, hb3⟩
                  have HX3 : Hid ((∀ i, i < zs.length → w3.cell? ⟨g, 2 + i, none⟩ = some (.int .u8 (zs.getD i 0))) ∧ Below w1.heap.size w1 w3) := ⟨hcl, hb3⟩
                  clear hcl hb3
                  go_wp2_with fail
                  refine (short_yes g (k + jj) cap zs _ hc0 hc1 (by omega) (by omega) hcap).mono ?_
                  rintro e w4 ⟨rfl, hw4⟩
                  obtain rfl := hw4.symm
                  clear hw4
                  go_wp2_with fail
                  refine (equal_yes g 2 (cap - 2) b off (k + jj) (k + jj) zs _ Hs.out.2.1 (by unfold maxLen; omega) HX3.out.1 (cells_below HC.out HX3.out.2)).mono ?_
                  rintro e w5 ⟨rfl, q5, hw5⟩
                  subst hw5
                  have HW : Hid (Below w.heap.size w (w3.drewN q5)) := below_drewN (Hs1.out.2.trans (HX3.out.2.mono Hs1.out.2.size)) q5
                  obtain ⟨l, m, e1, e2, hm1, hm5, e3, e4, e5⟩ := last_facts v hv0 hv2
                  have HL : Hid (enc v = l ∧ l.length = m ∧ Bytes l ∧ okU l = true ∧ val (strip l) = v) := ⟨e1, e2, e3, e4, e5⟩
                  clear e1 e2 e3 e4 e5
                  go_wp2_with fail
                  refine (encU_row v l m _ hv0 hv2 HL.out.1 HL.out.2.1).mono ?_
                  rintro e w6 ⟨g', cap', rfl, hcap', hd0, hd1, hdl, hb6⟩
                  have HD : Hid ((∀ i, i < l.length → w6.cell? ⟨g', 2 + i, none⟩ = some (.int .u8 (l.getD i 0))) ∧ Below w.heap.size w w6) := ⟨hdl, HW.out.trans (hb6.mono HW.out.size)⟩
                  clear hdl hb6
                  go_wp2_with fail
                  refine (short_yes g' m cap' l _ hd0 hd1 hm1 hm5 hcap').mono ?_
                  rintro e w7 ⟨rfl, hw7⟩
                  obtain rfl := hw7.symm
                  clear hw7
                  go_wp2_with fail
                  refine (u32_yes' (some ⟨g', 2, none⟩) m (cap' - 2) l v _ (.inr ⟨g', 2, rfl, HD.out.1⟩) HL.out.2.1 (by omega) HL.out.2.2.1 HL.out.2.2.2.1 HL.out.2.2.2.2).mono ?_
                  rintro e w8 ⟨rfl, hw8⟩
                  obtain rfl := hw8.symm
                  clear hw8
                  go_wp2
                  go_ret
                  exact ⟨rfl, HD.out.2⟩
            · have hwb : ((k : Int) == 1) = false := by simp; omega
              have HOK : Hid (okU zs = false) := by
                show _ = _
                rw [HWA.out.1, HPAD.out]; simp; omega
              go_wp2_with fail
              go_loop [8, 10] (fun x j => ∃ (jj : Nat) (V : Int), jj ≤ q ∧ j = .int .i64 jj ∧ x = .int .u32 V ∧ Hid (V = val ((zs.drop k).take jj))) (fun _ j => q - (intOf j).toNat)
              case atStart => exact ⟨0, 0, by omega, rfl, rfl, rfl⟩
              case round =>
                obtain ⟨jj, V, hj, rfl, rfl, HV⟩ := hrel
                by_cases hjl : jj < q
                · obtain ⟨y, HY, hy⟩ : ∃ y, Hid ((zs.drop k).getD jj 0 = y) ∧ w1.cell? ⟨b, off + k + jj, none⟩ = some (.int .u8 y) := by
                    refine ⟨_, rfl, ?_⟩
                    have := HC.out (k + jj) (by rw [Hs.out.2.1]; omega)
                    rw [getD_drop', Nat.add_assoc]; exact this
                  obtain ⟨hV, hy2, HR0⟩ := val_round (zs.drop k) jj V y (fun x hx => Hs.out.2.2.2 x (List.mem_of_mem_drop hx)) (by rw [List.length_drop, Hs.out.2.1]; omega) (by rw [List.length_drop, Hs.out.2.1]; omega) HV.out HY.out
                  have HR1 : Hid (bits .or .u32 (V * 256) y = val ((zs.drop k).take (jj + 1))) := HR0
                  clear HR0
                  go_wp2
                  go_round
                  case rel => exact ⟨jj + 1, _, by omega, by go_num, rfl, HR1.out⟩
                  case measure => simp [intOf]; omega
                · obtain rfl : jj = q := by omega
                  clear HV
                  go_wp2_with fail
                  refine (u32_no _ (k + jj) (k + jj) zs _ (.inr ⟨b, off, rfl, HC.out⟩) Hs.out.2.1 (Nat.le_refl _) (by unfold maxLen; omega) HOK.out).mono ?_
                  rintro e w2 ⟨⟨p, rfl⟩, hb2⟩
                  have HW : Hid (Below w.heap.size w w2) := Hs1.out.2.trans (hb2.mono Hs1.out.2.size)
                  clear hb2
                  obtain ⟨l, m, e1, e2, hm1, hm5, e3, e4, e5⟩ := last_facts v hv0 hv2
                  have HL : Hid (enc v = l ∧ l.length = m ∧ Bytes l ∧ okU l = true ∧ val (strip l) = v) := ⟨e1, e2, e3, e4, e5⟩
                  clear e1 e2 e3 e4 e5
                  go_wp2_with fail
                  refine (encU_row v l m _ hv0 hv2 HL.out.1 HL.out.2.1).mono ?_
                  rintro e w6 ⟨g', cap', rfl, hcap', hd0, hd1, hdl, hb6⟩
                  have HD : Hid ((∀ i, i < l.length → w6.cell? ⟨g', 2 + i, none⟩ = some (.int .u8 (l.getD i 0))) ∧ Below w.heap.size w w6) := ⟨hdl, HW.out.trans (hb6.mono HW.out.size)⟩
                  clear hdl hb6
                  go_wp2_with fail
                  refine (short_yes g' m cap' l _ hd0 hd1 hm1 hm5 hcap').mono ?_
                  rintro e w7 ⟨rfl, hw7⟩
                  obtain rfl := hw7.symm
                  clear hw7
                  go_wp2_with fail
                  refine (u32_yes' (some ⟨g', 2, none⟩) m (cap' - 2) l v _ (.inr ⟨g', 2, rfl, HD.out.1⟩) HL.out.2.1 (by omega) HL.out.2.2.1 HL.out.2.2.2.1 HL.out.2.2.2.2).mono ?_
                  rintro e w8 ⟨rfl, hw8⟩
                  obtain rfl := hw8.symm
                  clear hw8
                  go_wp2
                  go_ret
                  exact ⟨rfl, HD.out.2⟩

          · have HPAD : Hid (padOf (zs.drop k) = 0) := by show _ = _; rw [hr]; simp [padOf, hhi]
            clear hr
            have hlo : x < 128 := by omega
            by_cases hwant : k = 0
            · have hwb : ((k : Int) == 0) = true := by simp; omega
              have HOK : Hid (okU zs = true) := by
                show _ = _
                rw [HWA.out.1, HPAD.out]; simp; omega
              have hk1 : k ≤ 1 := by omega
              clear hwant
              go_wp2_with fail
              go_loop [8, 10] (fun x j => ∃ (jj : Nat) (V : Int), jj ≤ q ∧ j = .int .i64 jj ∧ x = .int .u32 V ∧ Hid (V = val ((zs.drop k).take jj))) (fun _ j => q - (intOf j).toNat)
              case atStart => exact ⟨0, 0, by omega, rfl, rfl, rfl⟩
              case round =>
                obtain ⟨jj, V, hj, rfl, rfl, HV⟩ := hrel
                by_cases hjl : jj < q
                · obtain ⟨y, HY, hy⟩ : ∃ y, Hid ((zs.drop k).getD jj 0 = y) ∧ w1.cell? ⟨b, off + k + jj, none⟩ = some (.int .u8 y) := by
                    refine ⟨_, rfl, ?_⟩
                    have := HC.out (k + jj) (by rw [Hs.out.2.1]; omega)
                    rw [getD_drop', Nat.add_assoc]; exact this
                  obtain ⟨hV, hy2, HR0⟩ := val_round (zs.drop k) jj V y (fun x hx => Hs.out.2.2.2 x (List.mem_of_mem_drop hx)) (by rw [List.length_drop, Hs.out.2.1]; omega) (by rw [List.length_drop, Hs.out.2.1]; omega) HV.out HY.out
                  have HR1 : Hid (bits .or .u32 (V * 256) y = val ((zs.drop k).take (jj + 1))) := HR0
                  clear HR0
                  go_wp2
                  go_round
                  case rel => exact ⟨jj + 1, _, by omega, by go_num, rfl, HR1.out⟩
                  case measure => simp [intOf]; omega
                · obtain rfl : jj = q := by omega
                  have HVz : V = val zs := by rw [HV.out, List.take_of_length_le (by rw [List.length_drop, Hs.out.2.1]; omega)]; exact HWA.out.2.symm
                  have hyf := yes_facts zs Hs.out.2.2.2 HOK.out
                  rw [← HVz] at hyf
                  obtain ⟨hV0, hV2, hV3, hV4⟩ := hyf
                  clear HV
                  have HV : Hid (val (strip zs) = V ∧ enc V = zs) := ⟨hV3, hV4⟩
                  clear hV3 hV4 HVz
                  go_wp2_with fail
                  refine (u32_yes' _ (k + jj) (k + jj) zs V _ (.inr ⟨b, off, rfl, HC.out⟩) Hs.out.2.1 (Nat.le_refl _) Hs.out.2.2.2 HOK.out HV.out.1).mono ?_
                  rintro e w2 ⟨rfl, hw2⟩
                  obtain rfl := hw2.symm
                  clear hw2
                  go_wp2_with fail
                  refine (encU_row V zs (k + jj) _ hV0 hV2 HV.out.2 Hs.out.2.1).mono ?_
                  rintro e w3 ⟨g, cap, rfl, hcap, hc0, hc1, hcl, hb3⟩
                  have HX3 : Hid ((∀ i, i < zs.length → w3.cell? ⟨g, 2 + i, none⟩ = some (.int .u8 (zs.getD i 0))) ∧ Below w1.heap.size w1 w3) := ⟨hcl, hb3⟩
                  clear hcl hb3
                  go_wp2_with fail
                  refine (short_yes g (k + jj) cap zs _ hc0 hc1 (by omega) (by omega) hcap).mono ?_
                  rintro e w4 ⟨rfl, hw4⟩
                  obtain rfl := hw4.symm
                  clear hw4
                  go_wp2_with fail
                  refine (equal_yes g 2 (cap - 2) b off (k + jj) (k + jj) zs _ Hs.out.2.1 (by unfold maxLen; omega) HX3.out.1 (cells_below HC.out HX3.out.2)).mono ?_
                  rintro e w5 ⟨rfl, q5, hw5⟩
                  subst hw5
                  have HW : Hid (Below w.heap.size w (w3.drewN q5)) := below_drewN (Hs1.out.2.trans (HX3.out.2.mono Hs1.out.2.size)) q5
                  obtain ⟨l, m, e1, e2, hm1, hm5, e3, e4, e5⟩ := last_facts v hv0 hv2
                  have HL : Hid (enc v = l ∧ l.length = m ∧ Bytes l ∧ okU l = true ∧ val (strip l) = v) := ⟨e1, e2, e3, e4, e5⟩
                  clear e1 e2 e3 e4 e5
                  go_wp2_with fail
                  refine (encU_row v l m _ hv0 hv2 HL.out.1 HL.out.2.1).mono ?_
                  rintro e w6 ⟨g', cap', rfl, hcap', hd0, hd1, hdl, hb6⟩
                  have HD : Hid ((∀ i, i < l.length → w6.cell? ⟨g', 2 + i, none⟩ = some (.int .u8 (l.getD i 0))) ∧ Below w.heap.size w w6) := ⟨hdl, HW.out.trans (hb6.mono HW.out.size)⟩
                  clear hdl hb6
                  go_wp2_with fail
                  refine (short_yes g' m cap' l _ hd0 hd1 hm1 hm5 hcap').mono ?_
                  rintro e w7 ⟨rfl, hw7⟩
                  obtain rfl := hw7.symm
                  clear hw7
                  go_wp2_with fail
                  refine (u32_yes' (some ⟨g', 2, none⟩) m (cap' - 2) l v _ (.inr ⟨g', 2, rfl, HD.out.1⟩) HL.out.2.1 (by omega) HL.out.2.2.1 HL.out.2.2.2.1 HL.out.2.2.2.2).mono ?_
                  rintro e w8 ⟨rfl, hw8⟩
                  obtain rfl := hw8.symm
                  clear hw8
                  go_wp2
                  go_ret
                  exact ⟨rfl, HD.out.2⟩
            · have hwb : ((k : Int) == 0) = false := by simp; omega
              have HOK : Hid (okU zs = false) := by
                show _ = _
                rw [HWA.out.1, HPAD.out]; simp; omega
              go_wp2_with fail
              go_loop [8, 10] (fun x j => ∃ (jj : Nat) (V : Int), jj ≤ q ∧ j = .int .i64 jj ∧ x = .int .u32 V ∧ Hid (V = val ((zs.drop k).take jj))) (fun _ j => q - (intOf j).toNat)
              case atStart => exact ⟨0, 0, by omega, rfl, rfl, rfl⟩
              case round =>
                obtain ⟨jj, V, hj, rfl, rfl, HV⟩ := hrel
                by_cases hjl : jj < q
                · obtain ⟨y, HY, hy⟩ : ∃ y, Hid ((zs.drop k).getD jj 0 = y) ∧ w1.cell? ⟨b, off + k + jj, none⟩ = some (.int .u8 y) := by
                    refine ⟨_, rfl, ?_⟩
                    have := HC.out (k + jj) (by rw [Hs.out.2.1]; omega)
                    rw [getD_drop', Nat.add_assoc]; exact this
                  obtain ⟨hV, hy2, HR0⟩ := val_round (zs.drop k) jj V y (fun x hx => Hs.out.2.2.2 x (List.mem_of_mem_drop hx)) (by rw [List.length_drop, Hs.out.2.1]; omega) (by rw [List.length_drop, Hs.out.2.1]; omega) HV.out HY.out
                  have HR1 : Hid (bits .or .u32 (V * 256) y = val ((zs.drop k).take (jj + 1))) := HR0
                  clear HR0
                  go_wp2
                  go_round
                  case rel => exact ⟨jj + 1, _, by omega, by go_num, rfl, HR1.out⟩
                  case measure => simp [intOf]; omega
                · obtain rfl : jj = q := by omega
                  clear HV
                  go_wp2_with fail
                  refine (u32_no _ (k + jj) (k + jj) zs _ (.inr ⟨b, off, rfl, HC.out⟩) Hs.out.2.1 (Nat.le_refl _) (by unfold maxLen; omega) HOK.out).mono ?_
                  rintro e w2 ⟨⟨p, rfl⟩, hb2⟩
                  have HW : Hid (Below w.heap.size w w2) := Hs1.out.2.trans (hb2.mono Hs1.out.2.size)
                  clear hb2
                  obtain ⟨l, m, e1, e2, hm1, hm5, e3, e4, e5⟩ := last_facts v hv0 hv2
                  have HL : Hid (enc v = l ∧ l.length = m ∧ Bytes l ∧ okU l = true ∧ val (strip l) = v) := ⟨e1, e2, e3, e4, e5⟩
                  clear e1 e2 e3 e4 e5
                  go_wp2_with fail
                  refine (encU_row v l m _ hv0 hv2 HL.out.1 HL.out.2.1).mono ?_
                  rintro e w6 ⟨g', cap', rfl, hcap', hd0, hd1, hdl, hb6⟩
                  have HD : Hid ((∀ i, i < l.length → w6.cell? ⟨g', 2 + i, none⟩ = some (.int .u8 (l.getD i 0))) ∧ Below w.heap.size w w6) := ⟨hdl, HW.out.trans (hb6.mono HW.out.size)⟩
                  clear hdl hb6
                  go_wp2_with fail
                  refine (short_yes g' m cap' l _ hd0 hd1 hm1 hm5 hcap').mono ?_
                  rintro e w7 ⟨rfl, hw7⟩
                  obtain rfl := hw7.symm
                  clear hw7
                  go_wp2_with fail
                  refine (u32_yes' (some ⟨g', 2, none⟩) m (cap' - 2) l v _ (.inr ⟨g', 2, rfl, HD.out.1⟩) HL.out.2.1 (by omega) HL.out.2.2.1 HL.out.2.2.2.1 HL.out.2.2.2.2).mono ?_
                  rintro e w8 ⟨rfl, hw8⟩
                  obtain rfl := hw8.symm
                  clear hw8
                  go_wp2
                  go_ret
                  exact ⟨rfl, HD.out.2⟩

    · obtain rfl : k = n := by omega
      have HK : Hid (k = lead zs) := lead_is zs k (by rw [Hs.out.2.1]; exact hk) HZ.out (.inl Hs.out.2.1.symm)
      have HWA : Hid (_ ∧ _) := want_at zs k 0 Hs.out.2.2.2 HK.out Hs.out.2.1
      have HD0 : Hid (zs.drop k = []) := List.drop_eq_nil_of_le (by rw [Hs.out.2.1]; exact Nat.le_refl _)
      have HPAD : Hid (padOf (zs.drop k) = 1) := by show _ = _; rw [HD0.out]; rfl
      by_cases hwant : k = 1
      · have HOK : Hid (okU zs = true) := by
          show _ = _
          rw [HWA.out.1, HPAD.out]; simp [hwant]
        have HVz : val zs = 0 := by rw [HWA.out.2, HD0.out]; rfl
        have hyf := yes_facts zs Hs.out.2.2.2 HOK.out
        rw [HVz] at hyf
        obtain ⟨V, hVe⟩ : ∃ V : Int, V = 0 := ⟨0, rfl⟩
        rw [← hVe] at hyf
        obtain ⟨hV0, hV2, hV3, hV4⟩ := hyf
        have HV : Hid (val (strip zs) = V ∧ enc V = zs) := ⟨hV3, hV4⟩
        clear hV3 hV4 HVz
        subst hwant
        subst hVe
        go_wp2_with fail
        go_loop [8, 10] (fun x j => x = .int .u32 0 ∧ j = .int .i64 0) (fun _ _ => 0)
        case atStart => exact ⟨rfl, rfl⟩
        case round =>
          obtain ⟨rfl, rfl⟩ := hrel
          go_wp2_with fail
          refine (u32_yes' _ (1) (1) zs 0 _ (.inr ⟨b, off, rfl, HC.out⟩) Hs.out.2.1 (Nat.le_refl _) Hs.out.2.2.2 HOK.out HV.out.1).mono ?_
          rintro e w2 ⟨rfl, hw2⟩
          obtain rfl := hw2.symm
          clear hw2
          go_wp2_with fail
          refine (encU_row 0 zs (1) _ hV0 hV2 HV.out.2 Hs.out.2.1).mono ?_
          rintro e w3 ⟨g, cap, rfl, hcap, hc0, hc1, hcl, hb3⟩
          have HX3 : Hid ((∀ i, i < zs.length → w3.cell? ⟨g, 2 + i, none⟩ = some (.int .u8 (zs.getD i 0))) ∧ Below w1.heap.size w1 w3) := ⟨hcl, hb3⟩
          clear hcl hb3
          go_wp2_with fail
          refine (short_yes g (1) cap zs _ hc0 hc1 (by omega) (by omega) hcap).mono ?_
          rintro e w4 ⟨rfl, hw4⟩
          obtain rfl := hw4.symm
          clear hw4
          go_wp2_with fail
          refine (equal_yes g 2 (cap - 2) b off (1) (1) zs _ Hs.out.2.1 (by unfold maxLen; omega) HX3.out.1 (cells_below HC.out HX3.out.2)).mono ?_
          rintro e w5 ⟨rfl, q5, hw5⟩
          subst hw5
          have HW : Hid (Below w.heap.size w (w3.drewN q5)) := below_drewN (Hs1.out.2.trans (HX3.out.2.mono Hs1.out.2.size)) q5
          obtain ⟨l, m, e1, e2, hm1, hm5, e3, e4, e5⟩ := last_facts v hv0 hv2
          have HL : Hid (enc v = l ∧ l.length = m ∧ Bytes l ∧ okU l = true ∧ val (strip l) = v) := ⟨e1, e2, e3, e4, e5⟩
          clear e1 e2 e3 e4 e5
          go_wp2_with fail
          refine (encU_row v l m _ hv0 hv2 HL.out.1 HL.out.2.1).mono ?_
          rintro e w6 ⟨g', cap', rfl, hcap', hd0, hd1, hdl, hb6⟩
          have HD : Hid ((∀ i, i < l.length → w6.cell? ⟨g', 2 + i, none⟩ = some (.int .u8 (l.getD i 0))) ∧ Below w.heap.size w w6) := ⟨hdl, HW.out.trans (hb6.mono HW.out.size)⟩
          clear hdl hb6
          go_wp2_with fail
          refine (short_yes g' m cap' l _ hd0 hd1 hm1 hm5 hcap').mono ?_
          rintro e w7 ⟨rfl, hw7⟩
          obtain rfl := hw7.symm
          clear hw7
          go_wp2_with fail
          refine (u32_yes' (some ⟨g', 2, none⟩) m (cap' - 2) l v _ (.inr ⟨g', 2, rfl, HD.out.1⟩) HL.out.2.1 (by omega) HL.out.2.2.1 HL.out.2.2.2.1 HL.out.2.2.2.2).mono ?_
          rintro e w8 ⟨rfl, hw8⟩
          obtain rfl := hw8.symm
          clear hw8
          go_wp2
          go_ret
          exact ⟨rfl, HD.out.2⟩

      · have HOK : Hid (okU zs = false) := by
          show _ = _
          rw [HWA.out.1, HPAD.out]; simp; omega
        have hwb : ((k : Int) == 1) = false := by simp; omega
        go_wp2_with fail
        go_loop [8, 10] (fun x j => x = .int .u32 0 ∧ j = .int .i64 0) (fun _ _ => 0)
        case atStart => exact ⟨rfl, rfl⟩
        case round =>
          obtain ⟨rfl, rfl⟩ := hrel
          go_wp2_with fail
          refine (u32_no _ (k) (k) zs _ (.inr ⟨b, off, rfl, HC.out⟩) Hs.out.2.1 (Nat.le_refl _) (by unfold maxLen; omega) HOK.out).mono ?_
          rintro e w2 ⟨⟨p, rfl⟩, hb2⟩
          have HW : Hid (Below w.heap.size w w2) := Hs1.out.2.trans (hb2.mono Hs1.out.2.size)
          clear hb2
          obtain ⟨l, m, e1, e2, hm1, hm5, e3, e4, e5⟩ := last_facts v hv0 hv2
          have HL : Hid (enc v = l ∧ l.length = m ∧ Bytes l ∧ okU l = true ∧ val (strip l) = v) := ⟨e1, e2, e3, e4, e5⟩
          clear e1 e2 e3 e4 e5
          go_wp2_with fail
          refine (encU_row v l m _ hv0 hv2 HL.out.1 HL.out.2.1).mono ?_
          rintro e w6 ⟨g', cap', rfl, hcap', hd0, hd1, hdl, hb6⟩
          have HD : Hid ((∀ i, i < l.length → w6.cell? ⟨g', 2 + i, none⟩ = some (.int .u8 (l.getD i 0))) ∧ Below w.heap.size w w6) := ⟨hdl, HW.out.trans (hb6.mono HW.out.size)⟩
          clear hdl hb6
          go_wp2_with fail
          refine (short_yes g' m cap' l _ hd0 hd1 hm1 hm5 hcap').mono ?_
          rintro e w7 ⟨rfl, hw7⟩
          obtain rfl := hw7.symm
          clear hw7
          go_wp2_with fail
          refine (u32_yes' (some ⟨g', 2, none⟩) m (cap' - 2) l v _ (.inr ⟨g', 2, rfl, HD.out.1⟩) HL.out.2.1 (by omega) HL.out.2.2.1 HL.out.2.2.2.1 HL.out.2.2.2.2).mono ?_
          rintro e w8 ⟨rfl, hw8⟩
          obtain rfl := hw8.symm
          clear hw8
          go_wp2
          go_ret
          exact ⟨rfl, HD.out.2⟩

end Go.Proofs.Qxb6002407a
