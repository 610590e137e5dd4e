/-
  'FnUint32ExactlyCanonicalAndInverseOfEncode': the empty slice, the long one, and all together.
-/
import Derived.Test.Qxb6002407aU32Main
namespace Go.Proofs.Qxb6002407a
open Go.RowKit
set_option linter.unusedVariables false
set_option maxRecDepth 100000

set_option maxHeartbeats 4000000 in
theorem u32_empty (ao : Option Addr) (c : Nat) (v : Int) (w : World) (h0 : ao = none → c = 0) (hv0 : 0 ≤ v) (hv2 : v < 4294967296) :
    Calls Try.prog 3 #[.slice ao 0 c, .int .u32 v] w fun e w' => e = .returned (.bool true) ∧ Below w.heap.size w w' := by
  have H0 : Hid (ao = none → c = 0 ∧ (0 : Nat) = 0) := fun h => ⟨h0 h, rfl⟩
  clear h0
  go_enter Try.func3, Try.ntmps3
  go_wp2_with (first | (go_at_call 6; refine (clone_any ao 0 c [] _ (.inl rfl) rfl (by omega) H0.out).mono ?_; rintro e w1 ⟨a1, rfl, hs1, hb1⟩; have Hs1 : Hid (Below w.heap.size w w1) := hb1; clear hs1 hb1) | go_in)
  go_loop [5] (fun i => i = .int .i64 0) (fun i => 0)
  case atStart => exact rfl
  case round =>
    subst hrel
    rcases a1 with _ | ⟨b, off, sp⟩
    all_goals
      go_wp2_with fail
      go_loop [8, 10] (fun x j => x = .int .u32 0 ∧ j = .int .i64 0) (fun _ _ => 0)
      case atStart => exact ⟨rfl, rfl⟩
      case round =>
        obtain ⟨rfl, rfl⟩ := hrel
        go_wp2_with fail
        refine (u32_no _ 0 0 [] _ (.inl rfl) rfl (Nat.le_refl _) (Nat.zero_le _) rfl).mono ?_
        rintro e w2 ⟨⟨p, rfl⟩, hb2⟩
        have HW : Hid (Below w.heap.size w w2) := Hs1.out.trans (hb2.mono Hs1.out.size)
        clear hb2
        obtain ⟨l, m, e1, e2, hm1, hm5, e3, e4, e5⟩ := last_facts v hv0 hv2
        have HL : Hid (enc v = l ∧ l.length = m ∧ Bytes l ∧ okU l = true ∧ val (strip l) = v) := ⟨e1, e2, e3, e4, e5⟩
        clear e1 e2 e3 e4 e5
        go_wp2_with fail
        refine (encU_row v l m _ hv0 hv2 HL.out.1 HL.out.2.1).mono ?_
        rintro e w6 ⟨g', cap', rfl, hcap', hd0, hd1, hdl, hb6⟩
        have HD : Hid ((∀ i, i < l.length → w6.cell? ⟨g', 2 + i, none⟩ = some (.int .u8 (l.getD i 0))) ∧ Below w.heap.size w w6) := ⟨hdl, HW.out.trans (hb6.mono HW.out.size)⟩
        clear hdl hb6
        go_wp2_with fail
        refine (short_yes g' m cap' l _ hd0 hd1 hm1 hm5 hcap').mono ?_
        rintro e w7 ⟨rfl, hw7⟩
        obtain rfl := hw7.symm
        clear hw7
        go_wp2_with fail
        refine (u32_yes' (some ⟨g', 2, none⟩) m (cap' - 2) l v _ (.inr ⟨g', 2, rfl, HD.out.1⟩) HL.out.2.1 (by omega) HL.out.2.2.1 HL.out.2.2.2.1 HL.out.2.2.2.2).mono ?_
        rintro e w8 ⟨rfl, hw8⟩
        obtain rfl := hw8.symm
        clear hw8
        go_wp2
        go_ret
        exact ⟨rfl, HD.out.2⟩

theorem u32_long (ao : Option Addr) (n c : Nat) (v : Int) (w : World) (hn : 1048576 < n) (hm : n ≤ maxLen) :
    Calls Try.prog 3 #[.slice ao n c, .int .u32 v] w fun e w' => e = .returned (.bool true) ∧ Below w.heap.size w w' := by
  unfold maxLen at hm
  go_enter Try.func3, Try.ntmps3
  go_wp2
  go_ret
  exact ⟨rfl, Below.refl _ _⟩

theorem u32_law (ao : Option Addr) (n c : Nat) (zs : List Int) (v : Int) (w : World) (hs : Seq w ao zs) (hl : zs.length = n) (hm : n ≤ maxLen) (h0 : ao = none → c = 0 ∧ n = 0) (hb : Bytes zs) (hv0 : 0 ≤ v) (hv2 : v < 4294967296) :
    Calls Try.prog 3 #[.slice ao n c, .int .u32 v] w fun e w' => e = .returned (.bool true) ∧ Below w.heap.size w w' := by
  by_cases h1 : 1048576 < n
  · exact u32_long ao n c v w h1 hm
  · rcases Nat.eq_zero_or_pos n with h | h
    · subst h; exact u32_empty ao c v w (fun e => (h0 e).1) hv0 hv2
    · exact u32_main ao n c zs v w hs hl (by omega) h0 h hb hv0 hv2
end Go.Proofs.Qxb6002407a
