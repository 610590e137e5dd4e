/-
  THE WALK of FnRoundIsHalfEvenToKeepDigits.
-/
import Derived.Test.Qxb6600033aRndAll
import Derived.Test.Qxb6600033aSub
import Derived.Test.Qxb6600033aCmp
namespace Go.Proofs.Qxb6600033a
open Go.RowKit
set_option linter.unusedVariables false
set_option maxRecDepth 100000

/-- 'string(b)' of digits. -/
theorem to_string {w : World} {b off : Nat} {rs : List Int} (hr : Row8 w b off rs) (hd : IsDig rs) (c : Nat) : ∃ r : ByteArray, Hid (nums r = rs) ∧ (convert 25 9 (.slice (some ⟨b, off, none⟩) rs.length c)).run Try.prog w = .ok (.string r) w := by
  refine ⟨strOfNums rs, ?_, run_convert_bytes_arg w 25 5 Try.underlying25 Try.underlying5 b off rs.length c rs rfl (fun i hi => hr i hi) 9 Try.underlying9⟩
  show nums (strOfNums rs) = rs
  unfold nums
  rw [strOfNums_data, List.map_map]
  conv => rhs; rw [← List.map_id rs]
  apply List.map_congr_left
  intro x hx
  have := hd x hx
  simp
  omega

theorem nums_inj {a b : ByteArray} (h : nums a = nums b) : a = b := by
  unfold nums at h
  have h2 : a.data.toList = b.data.toList := by
    exact (List.map_inj_right (fun x y e => UInt8.toNat_inj.1 (by omega))).1 h
  have h3 : a.data = b.data := Array.toList_inj.1 h2
  cases a; cases b; simp at h3; rw [h3]

/-- What the rounded Decimal is. -/
def Spec (neg : Bool) (pt : Int) (ds : List Int) (keep : Int) (neg' : Bool) (pt' : Int) (rs : List Int) : Prop :=
  (keep < 0 ∧ rs = [] ∧ neg' = false ∧ pt' = 0) ∨ ((ds.length : Int) ≤ keep ∧ 0 ≤ keep ∧ rs = ds ∧ neg' = neg ∧ pt' = pt) ∨
  (∃ k grow : Nat, keep = k ∧ k < ds.length ∧ neg' = neg ∧ Rounded ds k rs grow ∧ pt' = pt + grow)

theorem round_spec {w w' : World} {D : Nat} {neg : Bool} {pt : Int} {ds : List Int} {keep : Int} (h : RoundOut w D neg pt ds keep w') : ∃ neg' pt' rs n f long b off c, DecAt w' D neg' n f long pt' ∧ Src w' D n long rs b off c ∧ Below D w w' ∧ Spec neg pt ds keep neg' pt' rs := by
  rcases h with ⟨h1, n, f, long, b, off, c, h2, _, h3, h4⟩ | ⟨h1, n, f, long, b, off, c, h2, _, h3, h4⟩ | ⟨h0, h1, rs, grow, hr, n, f, long, b, off, c, h2, _, h3, h4⟩
  · exact ⟨_, _, _, _, _, _, _, _, _, h2, h3, h4, .inl ⟨h1, rfl, rfl, rfl⟩⟩
  · exact ⟨_, _, _, _, _, _, _, _, _, h2, h3, h4, .inr (.inl ⟨h1, by omega, rfl, rfl, by simp⟩)⟩
  · exact ⟨_, _, _, _, _, _, _, _, _, h2, h3, h4, .inr (.inr ⟨keep.toNat, grow, by omega, by omega, rfl, hr, rfl⟩)⟩

theorem spec_valid {neg neg' : Bool} {pt pt' keep : Int} {ds rs : List Int} (h : Spec neg pt ds keep neg' pt' rs) (hv : Valid ds) : Valid rs := by
  rcases h with ⟨_, rfl, _⟩ | ⟨_, _, rfl, _⟩ | ⟨k, grow, _, hk, _, hr, _⟩
  · exact ⟨fun x hx => by simp at hx, fun h => by simp at h⟩
  · exact hv
  · exact (rounded_valid hv hk hr).1
theorem spec_length {neg neg' : Bool} {pt pt' keep : Int} {ds rs : List Int} (h : Spec neg pt ds keep neg' pt' rs) (hv : Valid ds) : rs.length ≤ ds.length + 1 := by
  rcases h with ⟨_, rfl, _⟩ | ⟨_, _, rfl, _⟩ | ⟨k, grow, _, hk, _, hr, _⟩
  · simp
  · omega
  · have := (rounded_valid hv hk hr).2
    rcases hr with ⟨_, _, rfl⟩ | ⟨_, rfl, _⟩ | ⟨_, _, _, rfl⟩ <;> omega

theorem valid_dec_true (s : ByteArray) (pt : Int) (w : World) (hs : s.size ≤ 1048576) (hv : ValidDec (nums s) pt) :
    Calls Try.prog 13 #[.string s, .int .i64 pt] w fun e w' => e = .returned (.bool true) ∧ w' = w := by
  refine (valid_dec s pt w hs).mono ?_
  rintro e w' ⟨⟨v, rfl, h⟩, hw⟩
  exact ⟨by rw [h.2 hv], hw⟩
theorem valid_digits_true (s : ByteArray) (w : World) (hs : s.size ≤ 1048576) (hv : Valid (nums s)) :
    Calls Try.prog 19 #[.string s] w fun e w' => e = .returned (.bool true) ∧ w' = w := by
  refine (valid_digits s w hs).mono ?_
  rintro e w' ⟨⟨v, rfl, h⟩, hw⟩
  exact ⟨by rw [h.2 hv], hw⟩

/-- The Decimal that ZZMake made, laid into a block of its own. -/
theorem made_src {w1 : World} {n : Int} {f : Nat → Int} {long : Value} {s : ByteArray} {neg : Bool} {pt : Int}
    (h : (long = .slice none 0 0 ∧ n = (nums s).length ∧ (nums s).length ≤ 22 ∧ f = dg (nums s)) ∨ (∃ g c, long = .slice (some ⟨g, 0, none⟩) (nums s).length c ∧ (nums s).length ≤ c ∧ g < w1.heap.size ∧ Row8 w1 g 0 (nums s))) :
    DecAt (w1.alloc (.cells (dec26 neg n f long pt) 27)) w1.heap.size neg n f long pt ∧ ∃ b off c, Src (w1.alloc (.cells (dec26 neg n f long pt) 27)) w1.heap.size n long (nums s) b off c := by
  have hD : DecAt (w1.alloc (.cells (dec26 neg n f long pt) 27)) w1.heap.size neg n f long pt := heap_alloc_last w1 _
  refine ⟨hD, ?_⟩
  rcases h with ⟨rfl, rfl, h22, rfl⟩ | ⟨g, c, rfl, hc, hg, hr⟩
  · exact ⟨_, 2, 22, hD.row h22 (fun i _ => rfl), h22, .inl ⟨rfl, rfl, rfl, rfl, rfl⟩⟩
  · exact ⟨g, 0, c, hr.below ((Below.refl _ _).alloc (Nat.le_refl _) _), hc, .inr ⟨rfl, rfl, by omega, by simp; omega⟩⟩

theorem nums_take (s : ByteArray) (k : Nat) (h : k ≤ s.size) : nums (s.extract 0 k) = (nums s).take k := by
  unfold nums
  rw [← List.map_take]
  simp [ByteArray.data_extract]
theorem nums_drop (s : ByteArray) (k : Nat) (h : k ≤ s.size) : nums (s.extract k s.size) = (nums s).drop k := by
  unfold nums
  rw [← List.map_drop]
  simp [ByteArray.data_extract]
  apply List.take_of_length_le
  simp
theorem sub_at {n m : Nat} (b off c b2 off2 c2 : Nat) (xs ys : List Int) (w : World) (hxl : xs.length = n) (hyl : ys.length = m) (h1 : Row8 w b off xs) (h2 : Row8 w b2 off2 ys) (hd1 : IsDig xs) (hd2 : IsDig ys) (hle : m ≤ n) (hn : n ≤ 65537) :
    Calls Try.prog 21 #[.slice (some ⟨b, off, none⟩) n c, .slice (some ⟨b2, off2, none⟩) m c2] w (SubOut xs ys n w) := by
  subst hxl hyl
  exact sub_le b off c b2 off2 c2 xs ys w h1 h2 hd1 hd2 hle hn

end Go.Proofs.Qxb6600033a
