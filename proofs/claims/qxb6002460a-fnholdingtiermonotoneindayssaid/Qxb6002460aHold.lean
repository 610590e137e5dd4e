/-
  THE TWO LAWS ON HOLDING TABLES: the short ways, and all together.
-/
import Derived.Test.Qxb6002460aMono
namespace Go.Proofs.Qxb6002460a
open Go.RowKit
set_option linter.unusedVariables false
set_option maxRecDepth 100000

theorem covers_short (ao : Option Addr) (n c : Nat) (days : Int) (w : World) (hm : n ≤ maxLen) (h : n = 0 ∨ 65536 < n) :
    Calls Try.prog 4 #[.slice ao n c, .int .i64 days] w fun e w' => e = .returned (.bool true) ∧ Below w.heap.size w w' := by
  unfold maxLen at hm
  rcases h with rfl | h
  · go_enter Try.func4, Try.ntmps4
    go_wp2
    go_ret
    exact ⟨rfl, Below.refl _ _⟩
  · by_cases h2 : 1048576 < n
    · go_enter Try.func4, Try.ntmps4
      go_wp2
      go_ret
      exact ⟨rfl, Below.refl _ _⟩
    · go_enter Try.func4, Try.ntmps4
      go_wp2
      go_ret
      exact ⟨rfl, Below.refl _ _⟩

theorem mono_short (ao : Option Addr) (n c : Nat) (d1 d2 : Int) (w : World) (hm : n ≤ maxLen) (h : n = 0 ∨ 65536 < n) :
    Calls Try.prog 5 #[.slice ao n c, .int .i64 d1, .int .i64 d2] w fun e w' => e = .returned (.bool true) ∧ Below w.heap.size w w' := by
  unfold maxLen at hm
  rcases h with rfl | h
  · go_enter Try.func5, Try.ntmps5
    go_wp2
    go_ret
    exact ⟨rfl, Below.refl _ _⟩
  · by_cases h2 : 1048576 < n
    · go_enter Try.func5, Try.ntmps5
      go_wp2
      go_ret
      exact ⟨rfl, Below.refl _ _⟩
    · go_enter Try.func5, Try.ntmps5
      go_wp2
      go_ret
      exact ⟨rfl, Below.refl _ _⟩

/-- What the shell tells of a slice that is not nil, as 'Nums'. -/
theorem nums_of {w : World} {x : Addr} {len cap : Nat} {zs : List Int} (hl : len ≤ cap) (hz : zs.length = cap) (hcell : ∀ i, i < zs.length → w.cell? (x.add i) = some (.int .i64 (zs.getD i 0))) (h1 : 1 ≤ len) :
    ∃ b off, x = ⟨b, off, none⟩ ∧ Nums w b off (zs.take len) ∧ (zs.take len).length = len := by
  have hlen : (zs.take len).length = len := by rw [List.length_take]; omega
  obtain ⟨b, off, spot⟩ := x
  have hspot : spot = none := by simpa [Addr.add] using World.cell?_spot (hcell 0 (by omega))
  subst hspot
  refine ⟨b, off, rfl, fun i hi => ?_, hlen⟩
  rw [hlen] at hi
  have := hcell i (by omega)
  rw [WideShapes.add_plain] at this
  rw [this]
  simp [List.getD_eq_getElem?_getD, hi]

theorem covers_any (x : Addr) (len cap : Nat) (zs : List Int) (days : Int) (w : World) (hl : len ≤ cap) (hm : cap ≤ maxLen) (hz : zs.length = cap) (hcell : ∀ i, i < zs.length → w.cell? (x.add i) = some (.int .i64 (zs.getD i 0))) :
    Calls Try.prog 4 #[.slice (some x) len cap, .int .i64 days] w fun e w' => e = .returned (.bool true) ∧ Below w.heap.size w w' := by
  by_cases h : len = 0 ∨ 65536 < len
  · exact covers_short _ _ _ _ _ (Nat.le_trans hl hm) h
  · obtain ⟨b, off, rfl, hn, hlen⟩ := nums_of hl hz hcell (by omega)
    exact covers_main b off len cap _ days w hn hlen (by omega) (by omega)

theorem mono_any (x : Addr) (len cap : Nat) (zs : List Int) (d1 d2 : Int) (w : World) (hl : len ≤ cap) (hm : cap ≤ maxLen) (hz : zs.length = cap) (hcell : ∀ i, i < zs.length → w.cell? (x.add i) = some (.int .i64 (zs.getD i 0))) :
    Calls Try.prog 5 #[.slice (some x) len cap, .int .i64 d1, .int .i64 d2] w fun e w' => e = .returned (.bool true) ∧ Below w.heap.size w w' := by
  by_cases h : len = 0 ∨ 65536 < len
  · exact mono_short _ _ _ _ _ _ (Nat.le_trans hl hm) h
  · obtain ⟨b, off, rfl, hn, hlen⟩ := nums_of hl hz hcell (by omega)
    exact mono_main b off len cap _ d1 d2 w hn hlen (by omega) (by omega)
end Go.Proofs.Qxb6002460a
