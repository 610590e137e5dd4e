/-
  THE WALK of Decimal.round where it goes up, short digits.
-/
import Derived.Test.Qxb6600033aRnd
namespace Go.Proofs.Qxb6600033a
open Go.RowKit
set_option linter.unusedVariables false
set_option maxRecDepth 100000

/-- A Decimal lies at D. (A word that the walk leaves standing.) -/
def IsDec (w : World) (D : Nat) : Prop := ∃ neg n f long pt, DecAt w D neg n f long pt
@[simp] theorem isDec_drew (w : World) (D : Nat) : IsDec w.drew D ↔ IsDec w D := Iff.rfl
@[simp] theorem isDec_drewN (w : World) (q D : Nat) : IsDec (w.drewN q) D ↔ IsDec w D := Iff.rfl

/-- '1' and zeros. -/
def one22 (i : Nat) : Int := if i = 0 then 49 else 0
/-- The store of a whole Decimal: a word that the walk does not lay open. -/
def st27 (p v : Value) : Sem Unit := Instr.storeAt 27 p v
theorem st27_eq (p v : Value) : Instr.storeAt 27 p v = st27 p v := rfl
theorem store27 {w : World} {D : Nat} {neg : Bool} {p : Int} (h : IsDec w D) :
    (st27 (.pointer (some ⟨D, 0, none⟩)) (.agg #[.bool neg, .int .u8 1, .int .u8 49, .int .u8 0, .int .u8 0, .int .u8 0, .int .u8 0, .int .u8 0, .int .u8 0, .int .u8 0, .int .u8 0, .int .u8 0, .int .u8 0, .int .u8 0, .int .u8 0, .int .u8 0, .int .u8 0, .int .u8 0, .int .u8 0, .int .u8 0, .int .u8 0, .int .u8 0, .int .u8 0, .int .u8 0, .slice none 0 0, .int .i64 p])).run Try.prog w = .ok () (w.setRow D (dec26 neg 1 one22 (.slice none 0 0) p)) := by
  obtain ⟨ng, n, f, long, pt, hd⟩ := h
  have e : #[.bool neg, .int .u8 1, .int .u8 49, .int .u8 0, .int .u8 0, .int .u8 0, .int .u8 0, .int .u8 0, .int .u8 0, .int .u8 0, .int .u8 0, .int .u8 0, .int .u8 0, .int .u8 0, .int .u8 0, .int .u8 0, .int .u8 0, .int .u8 0, .int .u8 0, .int .u8 0, .int .u8 0, .int .u8 0, .int .u8 0, .int .u8 0, .slice none 0 0, .int .i64 p] = dec26 neg 1 one22 (.slice none 0 0) p := rfl
  rw [e]
  simp only [st27, Instr.storeAt, Instr.sureAddr, Sem.run_bind, Sem.run_pure, Result.andThen_ok, run_storeVar_row (P := Try.prog) w D 27 27 _ (dec26 neg 1 one22 (.slice none 0 0) p) hd (by rw [Try.info27]; rfl) rfl (dec26_one neg 1 one22 (.slice none 0 0) p rfl)]

/-! ### Decimals, a cell turned -/
theorem DecAt.set1 {w : World} {D : Nat} {neg : Bool} {n : Int} {f : Nat → Int} {long : Value} {pt : Int} (h : DecAt w D neg n f long pt) (v : Int) : DecAt (w.setCell ⟨D, 1, none⟩ (.int .u8 v)) D neg v f long pt := by
  unfold DecAt
  rw [heap_setCell_same _ _ _ _ _ _ h, dec_set1]
/-- One short digit turned. -/
def upd (f : Nat → Int) (i : Nat) (v : Int) (j : Nat) : Int := if j = i then v else f j
theorem dec_setS (neg : Bool) (n : Int) (f : Nat → Int) (long : Value) (pt : Int) (i : Nat) (hi : i < 22) (v : Int) : (dec26 neg n f long pt).setIfInBounds (2 + i) (.int .u8 v) = dec26 neg n (upd f i v) long pt := by
  match i, hi with
  | 0, _ => rfl
  | 1, _ => rfl
  | 2, _ => rfl
  | 3, _ => rfl
  | 4, _ => rfl
  | 5, _ => rfl
  | 6, _ => rfl
  | 7, _ => rfl
  | 8, _ => rfl
  | 9, _ => rfl
  | 10, _ => rfl
  | 11, _ => rfl
  | 12, _ => rfl
  | 13, _ => rfl
  | 14, _ => rfl
  | 15, _ => rfl
  | 16, _ => rfl
  | 17, _ => rfl
  | 18, _ => rfl
  | 19, _ => rfl
  | 20, _ => rfl
  | 21, _ => rfl
  | i + 22, h => omega
theorem DecAt.setS {w : World} {D : Nat} {neg : Bool} {n : Int} {f : Nat → Int} {long : Value} {pt : Int} (h : DecAt w D neg n f long pt) (i : Nat) (hi : i < 22) (v : Int) : DecAt (w.setCell ⟨D, 2 + i, none⟩ (.int .u8 v)) D neg n (upd f i v) long pt := by
  unfold DecAt
  rw [heap_setCell_same _ _ _ _ _ _ h, dec_setS _ _ _ _ _ _ hi]
theorem DecAt.short {w : World} {D : Nat} {neg : Bool} {n : Int} {f : Nat → Int} {long : Value} {pt : Int} (h : DecAt w D neg n f long pt) (i : Nat) (hi : i < 22) : w.cell? ⟨D, 2 + i, none⟩ = some (.int .u8 (f i)) := by
  rw [h.cell, Nat.add_comm, dec26_get _ _ _ _ _ _ hi]
theorem DecAt.row {w : World} {D : Nat} {neg : Bool} {n : Int} {f : Nat → Int} {long : Value} {pt : Int} (h : DecAt w D neg n f long pt) {rs : List Int} (hr : rs.length ≤ 22) (hf : ∀ i, i < rs.length → f i = dg rs i) : Row8 w D 2 rs := fun i hi => by
  rw [h.short i (by omega), hf i hi]
theorem DecAt.unrow {w : World} {D : Nat} {neg : Bool} {n : Int} {f : Nat → Int} {long : Value} {pt : Int} (h : DecAt w D neg n f long pt) {rs : List Int} (hr : rs.length ≤ 22) (hw : Row8 w D 2 rs) : ∀ i, i < rs.length → f i = dg rs i := fun i hi => by
  have := hw i hi
  rw [h.short i (by omega)] at this
  simpa using this

/-- What 'round' leaves: the digits rs, the point grown by grow. -/
def Out (w : World) (D : Nat) (neg : Bool) (pt : Int) (rs : List Int) (grow : Nat) (w' : World) : Prop :=
  ∃ n f long b off c, DecAt w' D neg n f long (pt + grow) ∧ long.oneCell' = true ∧ Src w' D n long rs b off c ∧ Below D w w'

theorem below_drewN (B q : Nat) (w : World) : Below B w (w.drewN q) := ⟨rfl, rfl, rfl, Nat.le_refl _, fun _ _ => rfl⟩

theorem out_carry {w : World} {D : Nat} {neg : Bool} {n : Int} {f : Nat → Int} {long : Value} {pt : Int} (h : DecAt w D neg n f long pt) (q : Nat) : Out w D neg pt [49] 1 ((w.drewN q).setRow D (dec26 neg 1 one22 (.slice none 0 0) (pt + 1))) := by
  have hd : DecAt ((w.drewN q).setRow D (dec26 neg 1 one22 (.slice none 0 0) (pt + 1))) D neg 1 one22 (.slice none 0 0) (pt + (1 : Nat)) := setRow_heap (w.drewN q) _ _ _ _ _ h
  refine ⟨_, _, _, D, 2, 22, hd, rfl, ⟨hd.row (by simp) (fun i hi => ?_), by simp, .inl ⟨rfl, rfl, rfl, rfl, rfl⟩⟩, below_setRow (below_drewN _ _ _) (Nat.le_refl _) _⟩
  simp at hi
  subst hi
  rfl

theorem dg_stop {ds : List Int} {m i : Nat} {z : Int} (hm : m ≤ ds.length) (hi : i < m + 1) : dg (ds.take m ++ [z]) i = if i = m then z else dg ds i := by
  have hlen : (ds.take m).length = m := by rw [List.length_take]; omega
  by_cases e : i = m
  · subst e; rw [if_pos rfl, dg_append_right (by omega), hlen, Nat.sub_self]; rfl
  · rw [if_neg e, dg_append_left (by omega), dg_take (by omega)]

theorem out_short {w : World} {D : Nat} {neg : Bool} {n : Int} {f : Nat → Int} {pt : Int} {ds : List Int} (h : DecAt w D neg n f (.slice none 0 0) pt) (hr : Row8 w D 2 ds) (hl : ds.length ≤ 22) (q q' m : Nat) (z : Int) (hm : m < ds.length) :
    Out w D neg pt (ds.take m ++ [z + 1]) 0 ((((w.drewN q).setCell ⟨D, 1, none⟩ (.int .u8 ((m : Int) + 1))).setCell ⟨D, 2 + m, none⟩ (.int .u8 (z + 1))).drewN q') := by
  have h0 : DecAt (w.drewN q) D neg n f (.slice none 0 0) pt := h
  have hd : DecAt ((((w.drewN q).setCell ⟨D, 1, none⟩ (.int .u8 ((m : Int) + 1))).setCell ⟨D, 2 + m, none⟩ (.int .u8 (z + 1))).drewN q') D neg ((m : Int) + 1) (upd f m (z + 1)) (.slice none 0 0) (pt + (0 : Nat)) := by
    rw [show pt + ((0 : Nat) : Int) = pt from by omega]
    exact (h0.set1 _).setS m (by omega) _
  have hlen : (ds.take m ++ [z + 1]).length = m + 1 := by simp; omega
  have hf := h.unrow hl hr
  refine ⟨_, _, _, D, 2, 22, hd, rfl, ⟨hd.row (by omega) (fun i hi => ?_), by omega, .inl ⟨rfl, rfl, rfl, rfl, by rw [hlen]; omega⟩⟩, ?_⟩
  · rw [hlen] at hi
    rw [dg_stop (by omega) hi]
    unfold upd
    split
    · rfl
    · exact hf i (by omega)
  · exact (((below_drewN D q w).setCell (Nat.le_refl _) _).setCell (Nat.le_refl _) _).trans (below_drewN _ _ _)

attribute [local go_sem ↓] st27_eq
attribute [local go_sem] isDec_drew isDec_drewN store27
set_option maxHeartbeats 8000000 in
theorem up_short {D : Nat} {neg : Bool} {n : Int} {f : Nat → Int} {long : Value} {pt : Int} {ds : List Int} {b off c : Nat} (k : Nat) (w : World) (h : DecAt w D neg n f long pt) (hs : Src w D n long ds b off c) (hd : IsDig ds) (hk : k < ds.length) (hm : ds.length ≤ 65536) (hpt : -10000 ≤ pt ∧ pt ≤ 10002) (hl : long = .slice none 0 0) (ht : UpTests k ds.length (dg ds k) (dg ds (k - 1))) (HU : Hid (goesUp ds k = true)) :
    Calls Try.prog 34 #[.pointer (some ⟨D, 0, none⟩), .int .i64 k] w fun e w' => e = .returned (.tuple #[]) ∧ ∃ rs grow, Rounded ds k rs grow ∧ Out w D neg pt rs grow w' := by
  obtain ⟨rfl, rfl, rfl, hn⟩ : b = D ∧ off = 2 ∧ c = 22 ∧ n = ds.length := by
    rcases hs.2.2 with ⟨_, h1, h2, h3, h4⟩ | ⟨h1, _⟩
    · exact ⟨h1, h2, h3, h4⟩
    · rw [hl] at h1; simp at h1
  have hl22 := hs.2.1
  obtain ⟨x, HX, hx⟩ : ∃ x, Hid (dg ds k = x) ∧ w.cell? ⟨b, 2 + k, none⟩ = some (.int .u8 x) := ⟨_, rfl, hs.1 k hk⟩
  obtain ⟨y, HY, hyd, hy⟩ : ∃ y, Hid (dg ds (k - 1) = y) ∧ (48 ≤ y ∧ y ≤ 57) ∧ (0 < k → w.cell? ⟨b, 2 + (k - 1), none⟩ = some (.int .u8 y)) := ⟨_, rfl, dg_dig hd (by omega), fun h => hs.1 (k - 1) (by omega)⟩
  rw [HX.out, HY.out] at ht
  have c24 : w.cell? ⟨b, 24, none⟩ = some long := h.cell 24
  have f24 : w.frozen? ⟨b, 24, none⟩ = false := h.fr 24
  have c1 : w.cell? ⟨b, 1, none⟩ = some (.int .u8 n) := h.cell 1
  have f1 : w.frozen? ⟨b, 1, none⟩ = false := h.fr 1
  have H : Hid (DecAt w b neg n f long pt ∧ Src w b n long ds b 2 22 ∧ k < ds.length) := ⟨h, hs, hk⟩
  have HR : Hid (Row8 w b 2 ds ∧ ∀ i, i < ds.length → 48 ≤ dg ds i ∧ dg ds i ≤ 57) := ⟨hs.1, fun i hi => dg_dig hd hi⟩
  have hnil := fun wx a n c => run_neq_slice_nil (P := Try.prog) wx 25 5 a n c Try.underlying25
  have hk1 : (k : Int) < (ds.length : Int) := by omega
  have hnile := fun wx a n c => Lib.run_eql_slice_nil (P := Try.prog) wx 25 5 a n c 0 0 Try.underlying25
  clear h hs
  subst hl
  rcases ht with ⟨h0, h1⟩ | ⟨h0, h1, h2⟩ | ⟨h0, h1⟩ | ⟨h0, h1, h2⟩ | ⟨h0, h1, h2, h3⟩
  · have q1 : (x == 53) = false := by simp; omega
    have q1n : ¬ x < 53 := by omega
    have q3 : decide ((0 : Int) < (k : Int)) = false := decide_eq_false (by omega)
    have q3n : ¬ 0 < k := by omega
    clear h0 h1
    go_enter Try.func34, Try.ntmps34
    go_wp2_with fail
    refine (digits_src H.out.1 H.out.2.1).mono ?_
    rintro e w1 ⟨rfl, q, hw1⟩
    subst hw1
    go_wp2_with fail
    go_loop [8] (fun v => ∃ m : Nat, m ≤ k ∧ v = .int .i64 ((m : Int) - 1) ∧ Hid (∀ j, m ≤ j → j < k → dg ds j = 57)) (fun v => (intOf v + 1).toNat)
    case atStart => exact ⟨k, Nat.le_refl _, rfl, fun j h1 h2 => by omega⟩
    case round =>
      obtain ⟨m, hmk, rfl, HN⟩ := hrel
      by_cases hm0 : m = 0
      · subst hm0
        have hisd : IsDec w b := ⟨_, _, _, _, _, H.out.1⟩
        have c0 : w.cell? ⟨b, 0, none⟩ = some (.bool neg) := H.out.1.cell 0
        have c25 : w.cell? ⟨b, 25, none⟩ = some (.int .i64 pt) := H.out.1.cell 25
        go_wp2_with fail
        go_region
        go_wp2
        exact bodyPost_ret (v := .tuple #[]) (by simp [results, Try.results34, go_sem]) rfl ⟨rfl, _, _, .inr (.inr ⟨HU.out, fun j h => HN.out j (Nat.zero_le _) h, rfl, rfl⟩), out_carry H.out.1 _⟩
      · exfalso; omega
  · have q1 : (x == 53) = true := by simp; omega
    have q1n : ¬ x < 53 := by omega
    have q2 : ((k : Int) == (ds.length : Int) - 1) = false := by simp; omega
    have q3 : decide ((0 : Int) < (k : Int)) = false := decide_eq_false (by omega)
    have q3n : ¬ 0 < k := by omega
    clear h0 h1 h2
    go_enter Try.func34, Try.ntmps34
    go_wp2_with fail
    refine (digits_src H.out.1 H.out.2.1).mono ?_
    rintro e w1 ⟨rfl, q, hw1⟩
    subst hw1
    go_wp2_with fail
    go_loop [8] (fun v => ∃ m : Nat, m ≤ k ∧ v = .int .i64 ((m : Int) - 1) ∧ Hid (∀ j, m ≤ j → j < k → dg ds j = 57)) (fun v => (intOf v + 1).toNat)
    case atStart => exact ⟨k, Nat.le_refl _, rfl, fun j h1 h2 => by omega⟩
    case round =>
      obtain ⟨m, hmk, rfl, HN⟩ := hrel
      by_cases hm0 : m = 0
      · subst hm0
        have hisd : IsDec w b := ⟨_, _, _, _, _, H.out.1⟩
        have c0 : w.cell? ⟨b, 0, none⟩ = some (.bool neg) := H.out.1.cell 0
        have c25 : w.cell? ⟨b, 25, none⟩ = some (.int .i64 pt) := H.out.1.cell 25
        go_wp2_with fail
        go_region
        go_wp2
        exact bodyPost_ret (v := .tuple #[]) (by simp [results, Try.results34, go_sem]) rfl ⟨rfl, _, _, .inr (.inr ⟨HU.out, fun j h => HN.out j (Nat.zero_le _) h, rfl, rfl⟩), out_carry H.out.1 _⟩
      · exfalso; omega
  · have q1 : (x == 53) = false := by simp; omega
    have q1n : ¬ x < 53 := by omega
    have q3 : (0 : Int) < (k : Int) := by omega
    have hy := hy h0
    clear h1
    go_enter Try.func34, Try.ntmps34
    go_wp2_with fail
    refine (digits_src H.out.1 H.out.2.1).mono ?_
    rintro e w1 ⟨rfl, q, hw1⟩
    subst hw1
    go_wp2_with fail
    go_loop [8] (fun v => ∃ m : Nat, m ≤ k ∧ v = .int .i64 ((m : Int) - 1) ∧ Hid (∀ j, m ≤ j → j < k → dg ds j = 57)) (fun v => (intOf v + 1).toNat)
    case atStart => exact ⟨k, Nat.le_refl _, rfl, fun j h1 h2 => by omega⟩
    case round =>
      obtain ⟨m, hmk, rfl, HN⟩ := hrel
      by_cases hm0 : m = 0
      · subst hm0
        have hisd : IsDec w b := ⟨_, _, _, _, _, H.out.1⟩
        have c0 : w.cell? ⟨b, 0, none⟩ = some (.bool neg) := H.out.1.cell 0
        have c25 : w.cell? ⟨b, 25, none⟩ = some (.int .i64 pt) := H.out.1.cell 25
        go_wp2_with fail
        go_region
        go_wp2
        exact bodyPost_ret (v := .tuple #[]) (by simp [results, Try.results34, go_sem]) rfl ⟨rfl, _, _, .inr (.inr ⟨HU.out, fun j h => HN.out j (Nat.zero_le _) h, rfl, rfl⟩), out_carry H.out.1 _⟩
      · obtain ⟨m, rfl⟩ : ∃ i, m = i + 1 := ⟨m - 1, by omega⟩
        have em : (((m + 1 : Nat) : Int) - 1) = (m : Int) := by omega
        rw [em]
        clear em hm0
        obtain ⟨z, HZ, hzd, hz⟩ : ∃ z, Hid (dg ds m = z) ∧ (48 ≤ z ∧ z ≤ 57) ∧ w.cell? ⟨b, 2 + m, none⟩ = some (.int .u8 z) := ⟨_, rfl, HR.out.2 m (by omega), HR.out.1 m (by omega)⟩
        by_cases h9 : z = 57
        · subst h9
          have HN1 : Hid (∀ j, m ≤ j → j < k → dg ds j = 57) := fun j h1 h2 => by
            by_cases e : j = m
            · rw [e]; exact HZ.out
            · exact HN.out j (by omega) h2
          go_wp2
          go_round
          case rel => exact ⟨m, by omega, by go_num, HN1.out⟩
          case measure => simp [intOf]
        · have h9' : (z == 57) = false := by simpa using h9
          have c2m : w.cell? ⟨b, 2 + m, none⟩ = some (.int .u8 z) := hz
          have f2m : w.frozen? ⟨b, 2 + m, none⟩ = false := H.out.1.fr _
          have hm22 : (m : Int) < 22 := by omega
          go_wp2_with fail
          go_region
          go_wp2
          exact bodyPost_end (v := .tuple #[]) (by simp [results, Try.results34, go_sem]) rfl ⟨rfl, _, _, .inr (.inl ⟨HU.out, rfl, m, by omega, by rw [HZ.out]; exact h9, fun j h1 h2 => HN.out j (by omega) h2, rfl⟩), by rw [HZ.out]; exact out_short H.out.1 HR.out.1 hl22 q 1 m z (by omega)⟩
  · have q1 : (x == 53) = true := by simp; omega
    have q1n : ¬ x < 53 := by omega
    have q2 : ((k : Int) == (ds.length : Int) - 1) = false := by simp; omega
    have q3 : (0 : Int) < (k : Int) := by omega
    have hy := hy h0
    clear h1 h2
    go_enter Try.func34, Try.ntmps34
    go_wp2_with fail
    refine (digits_src H.out.1 H.out.2.1).mono ?_
    rintro e w1 ⟨rfl, q, hw1⟩
    subst hw1
    go_wp2_with fail
    go_loop [8] (fun v => ∃ m : Nat, m ≤ k ∧ v = .int .i64 ((m : Int) - 1) ∧ Hid (∀ j, m ≤ j → j < k → dg ds j = 57)) (fun v => (intOf v + 1).toNat)
    case atStart => exact ⟨k, Nat.le_refl _, rfl, fun j h1 h2 => by omega⟩
    case round =>
      obtain ⟨m, hmk, rfl, HN⟩ := hrel
      by_cases hm0 : m = 0
      · subst hm0
        have hisd : IsDec w b := ⟨_, _, _, _, _, H.out.1⟩
        have c0 : w.cell? ⟨b, 0, none⟩ = some (.bool neg) := H.out.1.cell 0
        have c25 : w.cell? ⟨b, 25, none⟩ = some (.int .i64 pt) := H.out.1.cell 25
        go_wp2_with fail
        go_region
        go_wp2
        exact bodyPost_ret (v := .tuple #[]) (by simp [results, Try.results34, go_sem]) rfl ⟨rfl, _, _, .inr (.inr ⟨HU.out, fun j h => HN.out j (Nat.zero_le _) h, rfl, rfl⟩), out_carry H.out.1 _⟩
      · obtain ⟨m, rfl⟩ : ∃ i, m = i + 1 := ⟨m - 1, by omega⟩
        have em : (((m + 1 : Nat) : Int) - 1) = (m : Int) := by omega
        rw [em]
        clear em hm0
        obtain ⟨z, HZ, hzd, hz⟩ : ∃ z, Hid (dg ds m = z) ∧ (48 ≤ z ∧ z ≤ 57) ∧ w.cell? ⟨b, 2 + m, none⟩ = some (.int .u8 z) := ⟨_, rfl, HR.out.2 m (by omega), HR.out.1 m (by omega)⟩
        by_cases h9 : z = 57
        · subst h9
          have HN1 : Hid (∀ j, m ≤ j → j < k → dg ds j = 57) := fun j h1 h2 => by
            by_cases e : j = m
            · rw [e]; exact HZ.out
            · exact HN.out j (by omega) h2
          go_wp2
          go_round
          case rel => exact ⟨m, by omega, by go_num, HN1.out⟩
          case measure => simp [intOf]
        · have h9' : (z == 57) = false := by simpa using h9
          have c2m : w.cell? ⟨b, 2 + m, none⟩ = some (.int .u8 z) := hz
          have f2m : w.frozen? ⟨b, 2 + m, none⟩ = false := H.out.1.fr _
          have hm22 : (m : Int) < 22 := by omega
          go_wp2_with fail
          go_region
          go_wp2
          exact bodyPost_end (v := .tuple #[]) (by simp [results, Try.results34, go_sem]) rfl ⟨rfl, _, _, .inr (.inl ⟨HU.out, rfl, m, by omega, by rw [HZ.out]; exact h9, fun j h1 h2 => HN.out j (by omega) h2, rfl⟩), by rw [HZ.out]; exact out_short H.out.1 HR.out.1 hl22 q 1 m z (by omega)⟩
  · have q1 : (x == 53) = true := by simp; omega
    have q1n : ¬ x < 53 := by omega
    have q2 : ((k : Int) == (ds.length : Int) - 1) = true := by simp; omega
    have q3 : (0 : Int) < (k : Int) := by omega
    have hy := hy h0
    clear h1 h2
    go_enter Try.func34, Try.ntmps34
    go_wp2_with fail
    refine (digits_src H.out.1 H.out.2.1).mono ?_
    rintro e w1 ⟨rfl, q, hw1⟩
    subst hw1
    go_wp2_with fail
    go_loop [8] (fun v => ∃ m : Nat, m ≤ k ∧ v = .int .i64 ((m : Int) - 1) ∧ Hid (∀ j, m ≤ j → j < k → dg ds j = 57)) (fun v => (intOf v + 1).toNat)
    case atStart => exact ⟨k, Nat.le_refl _, rfl, fun j h1 h2 => by omega⟩
    case round =>
      obtain ⟨m, hmk, rfl, HN⟩ := hrel
      by_cases hm0 : m = 0
      · subst hm0
        have hisd : IsDec w b := ⟨_, _, _, _, _, H.out.1⟩
        have c0 : w.cell? ⟨b, 0, none⟩ = some (.bool neg) := H.out.1.cell 0
        have c25 : w.cell? ⟨b, 25, none⟩ = some (.int .i64 pt) := H.out.1.cell 25
        go_wp2_with fail
        go_region
        go_wp2
        exact bodyPost_ret (v := .tuple #[]) (by simp [results, Try.results34, go_sem]) rfl ⟨rfl, _, _, .inr (.inr ⟨HU.out, fun j h => HN.out j (Nat.zero_le _) h, rfl, rfl⟩), out_carry H.out.1 _⟩
      · obtain ⟨m, rfl⟩ : ∃ i, m = i + 1 := ⟨m - 1, by omega⟩
        have em : (((m + 1 : Nat) : Int) - 1) = (m : Int) := by omega
        rw [em]
        clear em hm0
        obtain ⟨z, HZ, hzd, hz⟩ : ∃ z, Hid (dg ds m = z) ∧ (48 ≤ z ∧ z ≤ 57) ∧ w.cell? ⟨b, 2 + m, none⟩ = some (.int .u8 z) := ⟨_, rfl, HR.out.2 m (by omega), HR.out.1 m (by omega)⟩
        by_cases h9 : z = 57
        · subst h9
          have HN1 : Hid (∀ j, m ≤ j → j < k → dg ds j = 57) := fun j h1 h2 => by
            by_cases e : j = m
            · rw [e]; exact HZ.out
            · exact HN.out j (by omega) h2
          go_wp2
          go_round
          case rel => exact ⟨m, by omega, by go_num, HN1.out⟩
          case measure => simp [intOf]
        · have h9' : (z == 57) = false := by simpa using h9
          have c2m : w.cell? ⟨b, 2 + m, none⟩ = some (.int .u8 z) := hz
          have f2m : w.frozen? ⟨b, 2 + m, none⟩ = false := H.out.1.fr _
          have hm22 : (m : Int) < 22 := by omega
          go_wp2_with fail
          go_region
          go_wp2
          exact bodyPost_end (v := .tuple #[]) (by simp [results, Try.results34, go_sem]) rfl ⟨rfl, _, _, .inr (.inl ⟨HU.out, rfl, m, by omega, by rw [HZ.out]; exact h9, fun j h1 h2 => HN.out j (by omega) h2, rfl⟩), by rw [HZ.out]; exact out_short H.out.1 HR.out.1 hl22 q 1 m z (by omega)⟩
end Go.Proofs.Qxb6600033a
