/-
  round, WHOLE; ZZRound, ZZDigits.
-/
import Derived.Test.Qxb6600033aUpL
namespace Go.Proofs.Qxb6600033a
open Go.RowKit
set_option linter.unusedVariables false
set_option maxRecDepth 100000

theorem Row8.take {w : World} {b off : Nat} {ds : List Int} (h : Row8 w b off ds) {t : Nat} (ht : t ≤ ds.length) : Row8 w b off (ds.take t) := fun i hi => by
  rw [List.length_take] at hi
  rw [h i (by omega), dg_take (by omega)]
theorem Row8.other {w : World} {b off : Nat} {ds : List Int} (h : Row8 w b off ds) {a : Addr} (ha : a.block ≠ b) (v : Value) : Row8 (w.setCell a v) b off ds := fun i hi => by
  rw [World.cell?_setCell_other _ _ _ _ (by intro e; rw [e] at ha; exact ha rfl)]
  exact h i hi

theorem out_down_short {w : World} {D : Nat} {neg : Bool} {n : Int} {f : Nat → Int} {pt : Int} {ds : List Int} (h : DecAt w D neg n f (.slice none 0 0) pt) (hr : Row8 w D 2 ds) (hl : ds.length ≤ 22) (q t : Nat) (ht : t ≤ ds.length) :
    Out w D neg pt (ds.take t) 0 ((w.drewN q).setCell ⟨D, 1, none⟩ (.int .u8 (t : Int))) := by
  have h0 : DecAt (w.drewN q) D neg n f (.slice none 0 0) pt := h
  have hd : DecAt ((w.drewN q).setCell ⟨D, 1, none⟩ (.int .u8 (t : Int))) D neg t f (.slice none 0 0) (pt + (0 : Nat)) := by
    rw [show pt + ((0 : Nat) : Int) = pt from by omega]
    exact h0.set1 _
  have hlen : (ds.take t).length = t := by rw [List.length_take]; omega
  have hf := h.unrow hl hr
  refine ⟨_, _, _, D, 2, 22, hd, rfl, ⟨hd.row (by omega) (fun i hi => ?_), by omega, .inl ⟨rfl, rfl, rfl, rfl, by rw [hlen]⟩⟩, (below_drewN D q w).setCell (Nat.le_refl _) _⟩
  rw [hlen] at hi
  rw [dg_take hi, hf i (by omega)]

theorem out_down_long {w : World} {D : Nat} {neg : Bool} {n : Int} {f : Nat → Int} {pt : Int} {ds : List Int} {b c : Nat} (h : DecAt w D neg n f (.slice (some ⟨b, 0, none⟩) ds.length c) pt) (hr : Row8 w b 0 ds) (hc : ds.length ≤ c) (hb : b ≠ D) (hbl : b < w.heap.size) (q t : Nat) (ht : t ≤ ds.length) :
    Out w D neg pt (ds.take t) 0 ((w.drewN q).setCell ⟨D, 24, none⟩ (.slice (some ⟨b, 0, none⟩) t c)) := by
  have h0 : DecAt (w.drewN q) D neg n f (.slice (some ⟨b, 0, none⟩) ds.length c) pt := h
  have hd : DecAt ((w.drewN q).setCell ⟨D, 24, none⟩ (.slice (some ⟨b, 0, none⟩) t c)) D neg n f (.slice (some ⟨b, 0, none⟩) t c) (pt + (0 : Nat)) := by
    rw [show pt + ((0 : Nat) : Int) = pt from by omega]
    exact row_world h0
  have hlen : (ds.take t).length = t := by rw [List.length_take]; omega
  have hr0 : Row8 (w.drewN q) b 0 ds := hr
  refine ⟨_, _, _, b, 0, c, hd, rfl, ⟨(hr0.take ht).other (fun e => hb e.symm) _, by omega, .inr ⟨by rw [hlen], rfl, hb, ?_⟩⟩, (below_drewN D q w).setCell (Nat.le_refl _) _⟩
  simp [World.setCell]
  exact hbl

/-- round, where digits fall away. -/
theorem round_cut {D : Nat} {neg : Bool} {n : Int} {f : Nat → Int} {long : Value} {pt : Int} {ds : List Int} {b off c : Nat} (k : Nat) (w : World) (h : DecAt w D neg n f long pt) (hs : Src w D n long ds b off c) (hd : IsDig ds) (hk : k < ds.length) (hm : ds.length ≤ 65536) (hpt : -10000 ≤ pt ∧ pt ≤ 10002) :
    Calls Try.prog 34 #[.pointer (some ⟨D, 0, none⟩), .int .i64 k] w fun e w' => e = .returned (.tuple #[]) ∧ ∃ rs grow, Rounded ds k rs grow ∧ Out w D neg pt rs grow w' := by
  cases hu : goesUp ds k with
  | true =>
    rcases hs.2.2 with ⟨hl, _⟩ | ⟨hl, _⟩
    · exact up_short k w h hs hd hk hm hpt hl (up_tests hk hu) hu
    · exact up_long k w h hs hd hk hm hpt hl (up_tests hk hu) hu
  | false =>
    have ht := trimN_le ds k
    rcases hs.2.2 with ⟨hl, hb, ho, hc, hn⟩ | ⟨hl, ho, hb, hbl⟩
    · refine (down_short k w h hs hd hk hm hl (down_tests hk hu)).mono ?_
      rintro e w' ⟨rfl, q, rfl⟩
      subst hl hb ho hc
      exact ⟨rfl, _, _, .inl ⟨hu, rfl, rfl⟩, out_down_short h hs.1 hs.2.1 q _ (by omega)⟩
    · refine (down_long k w h hs hd hk hm hl (down_tests hk hu)).mono ?_
      rintro e w' ⟨rfl, q, rfl⟩
      subst hl ho
      exact ⟨rfl, _, _, .inl ⟨hu, rfl, rfl⟩, out_down_long h hs.1 hs.2.1 hb hbl q _ (by omega)⟩

/-- What ZZRound leaves, whatever keep. -/
def RoundOut (w : World) (D : Nat) (neg : Bool) (pt : Int) (ds : List Int) (keep : Int) (w' : World) : Prop :=
  (keep < 0 ∧ ∃ n f long b off c, DecAt w' D false n f long 0 ∧ long.oneCell' = true ∧ Src w' D n long [] b off c ∧ Below D w w') ∨
  ((ds.length : Int) ≤ keep ∧ Out w D neg pt ds 0 w') ∨
  (0 ≤ keep ∧ keep < ds.length ∧ ∃ rs grow, Rounded ds keep.toNat rs grow ∧ Out w D neg pt rs grow w')

theorem round_whole {D : Nat} {neg : Bool} {n : Int} {f : Nat → Int} {long : Value} {pt : Int} {ds : List Int} {b off c : Nat} (keep : Int) (w : World) (h : DecAt w D neg n f long pt) (ho : long.oneCell' = true) (hs : Src w D n long ds b off c) (hd : IsDig ds) (hm : ds.length ≤ 65536) (hpt : -10000 ≤ pt ∧ pt ≤ 10002) :
    Calls Try.prog 34 #[.pointer (some ⟨D, 0, none⟩), .int .i64 keep] w fun e w' => e = .returned (.tuple #[]) ∧ RoundOut w D neg pt ds keep w' := by
  by_cases h1 : keep < 0
  · refine (round_neg keep w h hs h1).mono ?_
    rintro e w' ⟨rfl, q, rfl⟩
    have hd : DecAt ((w.drewN q).setRow D (dec26 false 0 (fun _ => 0) (.slice none 0 0) 0)) D false 0 (fun _ => 0) (.slice none 0 0) 0 := setRow_heap (w.drewN q) _ _ _ _ _ h
    exact ⟨rfl, .inl ⟨h1, _, _, _, D, 2, 22, hd, rfl, ⟨fun i hi => by simp at hi, by simp, .inl ⟨rfl, rfl, rfl, rfl, rfl⟩⟩, below_setRow (below_drewN _ _ _) (Nat.le_refl _) _⟩⟩
  · by_cases h2 : (ds.length : Int) ≤ keep
    · refine (round_all keep w h hs h2).mono ?_
      rintro e w' ⟨rfl, q, rfl⟩
      refine ⟨rfl, .inr (.inl ⟨h2, n, f, long, b, off, c, ?_, ho, hs, below_drewN _ _ _⟩)⟩
      rw [show pt + ((0 : Nat) : Int) = pt from by omega]
      exact h
    · obtain ⟨k, rfl⟩ : ∃ k : Nat, keep = k := ⟨keep.toNat, by omega⟩
      refine (round_cut k w h hs hd (by omega) hm hpt).mono ?_
      rintro e w' ⟨rfl, h3⟩
      exact ⟨rfl, .inr (.inr ⟨by omega, by omega, by simpa using h3⟩)⟩

theorem zzround {D : Nat} {neg : Bool} {n : Int} {f : Nat → Int} {long : Value} {pt : Int} {ds : List Int} {b off c : Nat} (keep : Int) (w : World) (h : DecAt w D neg n f long pt) (ho : long.oneCell' = true) (hs : Src w D n long ds b off c) (hd : IsDig ds) (hm : ds.length ≤ 65536) (hpt : -10000 ≤ pt ∧ pt ≤ 10002) :
    Calls Try.prog 15 #[.pointer (some ⟨D, 0, none⟩), .int .i64 keep] w fun e w' => e = .returned (.tuple #[]) ∧ RoundOut w D neg pt ds keep w' := by
  have HR : Hid (Calls Try.prog 34 #[.pointer (some ⟨D, 0, none⟩), .int .i64 keep] w fun e w' => e = .returned (.tuple #[]) ∧ RoundOut w D neg pt ds keep w') := round_whole keep w h ho hs hd hm hpt
  clear h ho hs hd hm hpt
  go_enter Try.func15, Try.ntmps15
  go_wp2_with fail
  refine HR.out.mono ?_
  rintro e w1 ⟨rfl, HO⟩
  have HO : Hid (RoundOut w D neg pt ds keep w1) := HO
  go_wp2
  exact bodyPost_end (v := .tuple #[]) (by simp [results, Try.results15, go_sem]) rfl ⟨rfl, HO.out⟩

theorem zzdigits {w : World} {D : Nat} {neg : Bool} {n : Int} {f : Nat → Int} {long : Value} {pt : Int} {ds : List Int} {b off c : Nat} (h : DecAt w D neg n f long pt) (hs : Src w D n long ds b off c) :
    Calls Try.prog 16 #[.pointer (some ⟨D, 0, none⟩)] w fun e w' => e = .returned (.slice (some ⟨b, off, none⟩) ds.length c) ∧ ∃ q, w' = w.drewN q := by
  have H : Hid (DecAt w D neg n f long pt ∧ Src w D n long ds b off c) := ⟨h, hs⟩
  clear h hs
  go_enter Try.func16, Try.ntmps16
  go_wp2_with fail
  refine (digits_src H.out.1 H.out.2).mono ?_
  rintro e w1 ⟨rfl, q, hw1⟩
  subst hw1
  go_wp2
  go_ret
  exact ⟨rfl, q, rfl⟩

end Go.Proofs.Qxb6600033a
