/-
  THE WALKS of EncodeUint32, Encode, zzIsShortIntegerEncoding, zzEqualBytes.
-/
import Derived.Test.Qxb6002407aU32Walk
import Derived.Laws.AppendOwnNone
import Derived.Deep.QuietTactic
import Derived.BigQuiet
namespace Go.Proofs.Qxb6002407a
open Go.RowKit
set_option linter.unusedVariables false
set_option maxRecDepth 100000

def row8 (l : List Int) : List Value := l.map (Value.int .u8)

set_option maxHeartbeats 1000000 in
theorem encode_any (g b off m cap : Nat) (l : List Int) (w : World) (hcell : w.cell? ⟨g, 0, none⟩ = some (.slice (some ⟨b, off, none⟩) m cap))
    (hc : ∀ i, i < l.length → w.cell? ⟨b, off + i, none⟩ = some (.int .u8 (l.getD i 0))) (hl : l.length = m) (h1 : 1 ≤ m) (h5 : m ≤ 5) :
    Calls Try.prog 15 #[.int .u8 2, .slice (some ⟨g, 0, none⟩) 1 1] w fun e w' => ∃ v, e = .returned v ∧ w'.ownsRow w.heap.size 5 1 v (2 + m) (row8 (2 :: (m : Int) :: l)) ∧ Below w.heap.size w w' := by
  obtain ⟨i0, hi, hz0, hz1, hz2⟩ := info_parts Try.info5
  have HC : Hid ((∀ i, i < l.length → w.cell? ⟨b, off + i, none⟩ = some (.int .u8 (l.getD i 0))) ∧ l.length = m) := ⟨hc, hl⟩
  clear hc hl
  go_enter Try.func15, Try.ntmps15
  go_wp2_with fail
  go_loop [5, 15] (fun n k => (n = .int .i64 0 ∧ k = .int .i64 0) ∨ (n = .int .i64 m ∧ k = .int .i64 1)) (fun _ k => 1 - (intOf k).toNat)
  case atStart => exact .inl ⟨rfl, rfl⟩
  case round =>
    rcases hrel with ⟨rfl, rfl⟩ | ⟨rfl, rfl⟩
    · go_wp2
      go_round
      case rel => exact .inr ⟨by go_num, rfl⟩
      case measure => simp [intOf]
    · have ho : ((w.alloc (.cells #[.int .u8 2] 5)).alloc (.cells #[.int .u8 (m : Int)] 5)).ownsRow w.heap.size 5 1 (.slice (some ⟨w.heap.size, 0, none⟩) 1 1) 1 [.int .u8 2] :=
        (World.ownsRow_lit w #[.int .u8 2] 1 (Nat.le_refl _) (by unfold maxLen; omega) rfl).alloc _
      have hn : ∀ j u, ([.int .u8 (m : Int)] : List Value)[j]? = some u → ((w.alloc (.cells #[.int .u8 2] 5)).alloc (.cells #[.int .u8 (m : Int)] 5)).cell? ((⟨w.heap.size + 1, 0, none⟩ : Addr).add j) = some u := by
        intro j u hj
        match j, hj with
        | 0, hj => simp at hj; subst hj; simp [Addr.add]
      have HO := show Hid _ from ho
      have HN := show Hid _ from hn
      clear ho hn
      go_wp2_with (first | (at_builtin; refine wpList_append_own _ rfl (.tmp 28) (.tmp 31) 22 rfl w.heap.size 5 i0 (.int .u8 0) 1 1 Try.underlying22 hi hz0 hz1 hz2 rfl (by decide) _ 1 [.int .u8 2] rfl HO.out ⟨w.heap.size + 1, 0, none⟩ 1 1 [.int .u8 (m : Int)] rfl rfl HN.out (by simp [Value.oneCell']) (by unfold maxLen; omega) (by omega) (by simp; omega) ?_; intro v1 w1 hown1 hgrow1 _))
      have hbel : Below w.heap.size w w1 := (((Below.refl _ _).alloc (Nat.le_refl _) _).alloc (by simp) _).grown hgrow1 (by simp; omega) (fun k h => Nat.le_of_eq (Option.some.inj h))
      have hc1 : w1.cell? ⟨g, 0, none⟩ = some (.slice (some ⟨b, off, none⟩) m cap) := (hbel.cell (World.block_lt_of_cell? w _ hcell)).trans hcell
      have HX : Hid (w1.ownsRow w.heap.size 5 1 v1 2 [.int .u8 2, .int .u8 (m : Int)] ∧ Below w.heap.size w w1) := ⟨hown1, hbel⟩
      have hsz : w.heap.size ≤ w1.heap.size := hbel.size
      have HN1 : Hid (∀ j u, (row8 l)[j]? = some u → w1.cell? ((⟨b, off, none⟩ : Addr).add j) = some u) := by
        intro j u hj
        simp only [row8, List.getElem?_map, Option.map_eq_some_iff] at hj
        obtain ⟨x, hx, rfl⟩ := hj
        obtain ⟨hjl, rfl⟩ := List.getElem?_eq_some_iff.1 hx
        have h := HC.out.1 j hjl
        rw [WideShapes.add_plain, hbel.cell (World.block_lt_of_cell? w _ h), h]
        simp [List.getD_eq_getElem?_getD, hjl]
      have HL : Hid ((row8 l).length = m * 1 ∧ ∀ u ∈ row8 l, u.oneCell' = true) := ⟨by simp [row8, HC.out.2], by simp [row8, Value.oneCell']⟩
      clear hbel hown1 hgrow1 HO HN hcell
      go_loopw [8, 55] (fun v k wr => (k = .int .i64 0 ∧ v = v1 ∧ wr = w1) ∨ (k = .int .i64 1 ∧ wr.ownsRow w.heap.size 5 1 v (2 + m) (row8 (2 :: (m : Int) :: l)) ∧ Below w.heap.size w wr)) (fun _ k _ => 1 - (intOf k).toNat)
      case atStart => exact .inl ⟨rfl, rfl, rfl⟩
      case round =>
        rcases hrel with ⟨rfl, hv, hw⟩ | ⟨rfl, hown, hbel⟩
        · subst hv
          subst hw
          go_wp2_with (first | (at_builtin; refine wpList_append_own _ rfl (.tmp 59) (.tmp 60) 22 rfl w.heap.size 5 i0 (.int .u8 0) 1 1 Try.underlying22 hi hz0 hz1 hz2 rfl (by decide) _ 2 [.int .u8 2, .int .u8 (m : Int)] rfl HX.out.1 ⟨b, off, none⟩ m cap (row8 l) rfl HL.out.1 HN1.out HL.out.2 (by unfold maxLen; omega) (by omega) hsz ?_; intro v2 w2 hown2 hgrow2 _))
          have hb2 : Below w.heap.size w w2 := HX.out.2.grown hgrow2 hsz (fun k h => (HX.out.1.lt k h).1)
          go_roundw
          case rel => exact .inr ⟨rfl, hown2, hb2⟩
          case measure => simp [intOf]
        · go_wp2
          go_ret
          exact ⟨_, rfl, hown, hbel⟩

/-- 'zzIsShortIntegerEncoding' of the encoding of at least one octet, and fewer than 128. -/
theorem short_yes (g m cap : Nat) (l : List Int) (w : World) (h0 : w.cell? ⟨g, 0, none⟩ = some (.int .u8 2)) (h1 : w.cell? ⟨g, 1, none⟩ = some (.int .u8 (m : Int))) (hm1 : 1 ≤ m) (hm : m ≤ 5) (hcap : 2 + m ≤ cap) :
    Calls Try.prog 8 #[.slice (some ⟨g, 0, none⟩) (2 + m) cap] w fun e w' => e = .returned (.tuple #[.slice (some ⟨g, 2, none⟩) m (cap - 2), .bool true]) ∧ w' = w := by
  have hlt : ¬ ((2 : Int) + (m : Int) < 3) := by omega
  have hne : ((m : Int) != (2 : Int) + (m : Int) - 2) = false := by simp; omega
  go_enter Try.func8, Try.ntmps8
  go_wp2
  go_ret2
  exact ⟨rfl, rfl⟩

set_option maxHeartbeats 1000000 in
/-- 'zzEqualBytes' of two rows that hold the same. -/
theorem equal_yes (b1 o1 c1 b2 o2 c2 n : Nat) (zs : List Int) (w : World) (hl : zs.length = n) (hm : n ≤ maxLen)
    (h1 : ∀ i, i < zs.length → w.cell? ⟨b1, o1 + i, none⟩ = some (.int .u8 (zs.getD i 0))) (h2 : ∀ i, i < zs.length → w.cell? ⟨b2, o2 + i, none⟩ = some (.int .u8 (zs.getD i 0))) :
    Calls Try.prog 10 #[.slice (some ⟨b1, o1, none⟩) n c1, .slice (some ⟨b2, o2, none⟩) n c2] w fun e w' => e = .returned (.bool true) ∧ ∃ q, w' = w.drewN q := by
  unfold maxLen at hm
  have H1 : Hid (∀ i, i < n → w.cell? ⟨b1, o1 + i, none⟩ = some (.int .u8 (zs.getD i 0))) := by rw [← hl]; exact h1
  have H2 : Hid (∀ i, i < n → w.cell? ⟨b2, o2 + i, none⟩ = some (.int .u8 (zs.getD i 0))) := by rw [← hl]; exact h2
  clear h1 h2 hl
  go_enter Try.func10, Try.ntmps10
  go_wp2
  go_loopw [5] (fun i wr => ∃ k q : Nat, k ≤ n ∧ i = .int .i64 k ∧ wr = w.drewN q) (fun i _ => n - (intOf i).toNat)
  case atStart => exact ⟨0, 0, by omega, rfl, rfl⟩
  case round =>
    obtain ⟨k, q, hk, rfl, rfl⟩ := hrel
    by_cases hlt : k < n
    · obtain ⟨x, hx1, hx2⟩ : ∃ x, w.cell? ⟨b1, o1 + k, none⟩ = some (.int .u8 x) ∧ w.cell? ⟨b2, o2 + k, none⟩ = some (.int .u8 x) := ⟨_, H1.out k hlt, H2.out k hlt⟩
      have hlt2 : (k : Int) < (n : Int) := by omega
      go_wp2
      go_quiet (fail)
      go_wp2
      go_roundw
      case rel => exact ⟨k + 1, _, by omega, by go_num, by first | rfl | simp⟩
      case measure => simp [intOf]; omega
    · go_wp2
      go_ret
      exact ⟨rfl, q, rfl⟩

theorem own_cases {w : World} {B n : Nat} {s : Value} {xs : List Value} (h : w.ownsRow B 5 1 s n xs) :
    (s = .slice none 0 0 ∧ n = 0) ∨ ∃ g cap, s = .slice (some ⟨g, 0, none⟩) n cap ∧ n ≤ cap ∧ B ≤ g ∧ ∀ j u, xs[j]? = some u → w.cell? ((⟨g, 0, none⟩ : Addr).add j) = some u := by
  have h' := h
  rcases h.2 with h2 | ⟨g, cap, cur, rfl, hb, hg, hn, _⟩
  · exact .inl h2
  · refine .inr ⟨g, cap, rfl, hn, hb, fun j u hj => ?_⟩
    have hjl : j < xs.length := (List.getElem?_eq_some_iff.1 hj).1
    have := h'.1
    rw [WideShapes.add_plain, Nat.zero_add, h'.cellAt j (by omega), hj]

theorem own_cell {w : World} {B n g cap : Nat} {l : List Int} (h : w.ownsRow B 5 1 (.slice (some ⟨g, 0, none⟩) n cap) n (row8 l)) : ∀ i, i < l.length → w.cell? ⟨g, 0 + i, none⟩ = some (.int .u8 (l.getD i 0)) := by
  intro i hi
  have hl := h.1
  simp only [row8, List.length_map] at hl
  rw [Nat.zero_add, h.cellAt i (by omega)]
  simp [row8, hi, List.getD_eq_getElem?_getD]

theorem own_row {w : World} {B n : Nat} {s : Value} {xs : List Value} (h : w.ownsRow B 5 1 s n xs) (hn : 0 < n) : ∃ g cap, s = .slice (some ⟨g, 0, none⟩) n cap := by
  rcases h.2 with ⟨_, h0⟩ | ⟨g, cap, cur, h1, _⟩
  · omega
  · exact ⟨g, cap, h1⟩

theorem oneCell_row8 (l : List Int) : ∀ u ∈ row8 l, u.oneCell' = true := by simp [row8, Value.oneCell']

theorem enc_nil {v : Int} (h : be v = []) : enc v = [0] := by unfold enc; rw [h]
theorem enc_hi {v c : Int} {r : List Int} (h : be v = c :: r) (hc : 128 ≤ c) : enc v = 0 :: c :: r := by unfold enc; rw [h]; simp [hc]
theorem enc_lo {v c : Int} {r : List Int} (h : be v = c :: r) (hc : ¬ 128 ≤ c) : enc v = c :: r := by unfold enc; rw [h]; simp [hc]

/-- The call of 'Encode' at the end of 'EncodeUint32'. -/
theorem enc_tail (v : Int) (w wr : World) (N g n cap : Nat) (hN : N = wr.heap.size) (hw : Below w.heap.size w wr) (ho : wr.ownsRow w.heap.size 5 1 (.slice (some ⟨g, 0, none⟩) n cap) n (row8 (enc v))) (h0 : 0 ≤ v) (h2 : v < 4294967296) :
    Calls Try.prog 15 #[.int .u8 2, .slice (some ⟨N, 0, none⟩) 1 1] (wr.alloc (.cells #[.slice (some ⟨g, 0, none⟩) n cap] 22)) fun e w' => ∃ s, e = .returned s ∧ w'.ownsRow w.heap.size 5 1 s (2 + (enc v).length) (row8 (2 :: ((enc v).length : Int) :: enc v)) ∧ Below w.heap.size w w' := by
  subst hN
  have hn : (enc v).length = n := by have := ho.1; simpa [row8] using this
  have hf := enc_facts v h0 h2
  have hsz := hw.size
  have key := encode_any wr.heap.size g 0 n cap (enc v) (wr.alloc (.cells #[.slice (some ⟨g, 0, none⟩) n cap] 22)) (by simp) (own_cell (ho.alloc _)) hn (by omega) (by omega)
  refine key.mono ?_
  rintro e w' ⟨s, rfl, hs, hb⟩
  rw [← hn] at hs
  refine ⟨s, rfl, ?_, ?_⟩
  · obtain ⟨h1, h2⟩ := hs
    refine ⟨h1, ?_⟩
    rcases h2 with h2 | ⟨g', cap', cur', e1, e2, e3⟩
    · exact .inl h2
    · exact .inr ⟨g', cap', cur', e1, by simp at e2; omega, e3⟩
  · exact (hw.alloc hsz _).trans (hb.mono (by simp; omega))

set_option maxHeartbeats 1000000 in
theorem encU_any (v : Int) (w : World) (h0 : 0 ≤ v) (h2 : v < 4294967296) :
    Calls Try.prog 9 #[.int .u32 v] w fun e w' => ∃ s, e = .returned s ∧ w'.ownsRow w.heap.size 5 1 s (2 + (enc v).length) (row8 (2 :: ((enc v).length : Int) :: enc v)) ∧ Below w.heap.size w w' := by
  obtain ⟨i0, hi, hz0, hz1, hz2⟩ := info_parts Try.info5
  go_enter Try.func9, Try.ntmps9
  go_wp2_with fail
  go_loopw [0, 3] (fun x s wr => ∃ (cur : Int) (l : List Int), 0 ≤ cur ∧ cur < 4294967296 ∧ x = .int .u32 cur ∧ Hid (be cur ++ l = be v ∧ wr.ownsRow w.heap.size 5 1 s l.length (row8 l) ∧ Below w.heap.size w wr ∧ (l = [] → s = .slice none 0 0))) (fun x _ _ => (intOf x).toNat)
  case atStart => exact ⟨v, [], h0, h2, rfl, by simp, World.ownsRow_nil _ _ _ _, Below.refl _ _, fun _ => rfl⟩
  case round =>
    obtain ⟨cur, l, hc0, hc2, rfl, HR⟩ := hrel
    have hsz : w.heap.size ≤ wr.heap.size := HR.out.2.2.1.size
    have hlen : l.length ≤ 4 := by have := be_length v; rw [← HR.out.1, List.length_append] at this; omega
    by_cases hpos : 0 < cur
    · have HS : Hid (be (cur / 256) ++ (cur % 256 :: l) = be v) := by
        show _ = _
        rw [← HR.out.1, be_step cur hpos hc2]; simp
      have HA : Hid ((wr.alloc (.cells #[.int .u8 (cur % 256)] 5)).ownsRow w.heap.size 5 1 (.slice (some ⟨wr.heap.size, 0, none⟩) 1 1) 1 [.int .u8 (cur % 256)]) :=
        World.ownsRow_lit wr #[.int .u8 (cur % 256)] 1 hsz (by unfold maxLen; omega) rfl
      have HB : Hid (Below w.heap.size w (wr.alloc (.cells #[.int .u8 (cur % 256)] 5))) := HR.out.2.2.1.alloc hsz _
      rcases own_cases HR.out.2.1 with ⟨rfl, hl0⟩ | ⟨g, cap, rfl, hcap, hg, hcells⟩
      · have HL : Hid (l = []) := List.length_eq_zero_iff.1 hl0
        clear hl0
        go_wp2
        go_roundw
        case rel => exact ⟨cur / 256, cur % 256 :: l, by omega, by omega, rfl, HS.out, by rw [HL.out]; exact HA.out, HB.out, fun h => by cases h⟩
        case measure => simp [intOf]; omega
      · have HN : Hid (∀ j u, (row8 l)[j]? = some u → (wr.alloc (.cells #[.int .u8 (cur % 256)] 5)).cell? ((⟨g, 0, none⟩ : Addr).add j) = some u) := by
          intro j u hj
          have h := hcells j u hj
          rw [World.cell?_alloc_lt _ _ _ (World.block_lt_of_cell? wr _ h)]
          exact h
        clear hcells
        go_wp2_with (first | (at_builtin; refine wpList_append_own _ rfl (.tmp 10) (.tmp 11) 22 rfl w.heap.size 5 i0 (.int .u8 0) 1 1 Try.underlying22 hi hz0 hz1 hz2 rfl (by decide) _ 1 [.int .u8 (cur % 256)] rfl HA.out ⟨g, 0, none⟩ l.length cap (row8 l) rfl (by simp [row8]) HN.out (oneCell_row8 l) (by unfold maxLen; omega) (by omega) (by simp; omega) ?_; intro v1 w1 hown1 hgrow1 hnil1))
        have hb2 : Below w.heap.size w w1 := HB.out.grown hgrow1 (by simp; omega) (fun k h => by rw [← Option.some.inj h]; exact hsz)
        go_roundw
        case rel => exact ⟨cur / 256, cur % 256 :: l, by omega, by omega, rfl, HS.out, by rw [List.length_cons, Nat.add_comm]; exact hown1, hb2, fun h => by cases h⟩
        case measure => simp [intOf]; omega
    · obtain rfl : cur = 0 := by omega
      have HE : Hid (be v = l) := by show _ = _; rw [← HR.out.1, be_zero]; rfl
      rcases l with _ | ⟨c, r⟩
      · have hs := HR.out.2.2.2 rfl
        subst hs
        go_wp2_with fail
        refine (enc_tail v w (wr.alloc (.cells #[.int .u8 0] 5)) (wr.heap.size + 1) wr.heap.size 1 1 (by simp) (HR.out.2.2.1.alloc hsz _) (by rw [enc_nil HE.out]; exact World.ownsRow_lit wr #[.int .u8 0] 1 hsz (by unfold maxLen; omega) rfl) h0 h2).mono ?_
        rintro e w' ⟨s, rfl, hs, hb⟩
        go_wp2
        go_ret
        exact ⟨_, rfl, hs, hb⟩
      · rcases own_cases HR.out.2.1 with ⟨rfl, hl0⟩ | ⟨g, cap, rfl, hcap, hg, hcells⟩
        · simp at hl0
        · have hc0 : wr.cell? ⟨g, 0, none⟩ = some (.int .u8 c) := by simpa [WideShapes.add_plain] using hcells 0 (.int .u8 c) rfl
          by_cases h128 : 128 ≤ c
          · have HN : Hid (∀ j u, (row8 (c :: r))[j]? = some u → (wr.alloc (.cells #[.int .u8 0] 5)).cell? ((⟨g, 0, none⟩ : Addr).add j) = some u) := by
              intro j u hj
              have h := hcells j u hj
              rw [World.cell?_alloc_lt _ _ _ (World.block_lt_of_cell? wr _ h)]
              exact h
            have HA : Hid ((wr.alloc (.cells #[.int .u8 0] 5)).ownsRow w.heap.size 5 1 (.slice (some ⟨wr.heap.size, 0, none⟩) 1 1) 1 [.int .u8 0]) :=
              World.ownsRow_lit wr #[.int .u8 0] 1 hsz (by unfold maxLen; omega) rfl
            have HB : Hid (Below w.heap.size w (wr.alloc (.cells #[.int .u8 0] 5))) := HR.out.2.2.1.alloc hsz _
            clear hcells
            have hlen' : r.length ≤ 3 := by simpa using hlen
            go_wp2_with (first | (at_builtin; refine wpList_append_own _ rfl (.tmp 22) (.tmp 23) 22 rfl w.heap.size 5 i0 (.int .u8 0) 1 1 Try.underlying22 hi hz0 hz1 hz2 rfl (by decide) _ 1 [.int .u8 0] rfl HA.out ⟨g, 0, none⟩ (r.length + 1) cap (row8 (c :: r)) rfl (by simp [row8]) HN.out (oneCell_row8 _) (by unfold maxLen; omega) (by omega) (by simp; omega) ?_; intro v1 w1 hown1 hgrow1 hnil1; obtain ⟨g1, cap1, hv1⟩ := own_row hown1 (by omega); subst hv1))
            have hb2 : Below w.heap.size w w1 := HB.out.grown hgrow1 (by simp; omega) (fun k h => by rw [← Option.some.inj h]; exact hsz)
            refine (enc_tail v w w1 w1.heap.size g1 (1 + (r.length + 1)) cap1 rfl hb2 (by rw [enc_hi HE.out h128]; exact hown1) h0 h2).mono ?_
            rintro e w' ⟨s, rfl, hs, hb⟩
            go_wp2
            go_ret
            exact ⟨_, rfl, hs, hb⟩
          · have hlt : c < 128 := by omega
            clear hcells
            go_wp2_with fail
            refine (enc_tail v w wr wr.heap.size g (r.length + 1) cap rfl HR.out.2.2.1 (by rw [enc_lo HE.out (by omega)]; exact HR.out.2.1) h0 h2).mono ?_
            rintro e w' ⟨s, rfl, hs, hb⟩
            go_wp2
            go_ret
            exact ⟨_, rfl, hs, hb⟩
end Go.Proofs.Qxb6002407a
