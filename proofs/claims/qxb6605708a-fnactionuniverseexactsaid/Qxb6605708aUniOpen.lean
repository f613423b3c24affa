/-
  From the readings of the arguments to the views of UniViews: a slice of bools (type 29), a slice of slices of strings (type 30).
-/
import Derived.Test.Qxb6605708aUniViews
import Derived.ProofKit
import Derived.OpenShut
import Derived.SliceStrings
import Derived.Deep.Slices
namespace Go.Proofs.Qxb6605708a.Uni
open Go.ChangeShapes Go.WideShapes Go.ChangeAt Go.RowKit Go.WideElems
set_option linter.unusedVariables false

theorem cells_at {w : World} {a : Addr} {m : Nat} {V : Nat → Value} (h : ∀ i, i < m → w.cell? (a.add i) = some (V i)) (hp : 0 < m) :
    ∃ b off, a = ⟨b, off, none⟩ ∧ ∀ j, j < m → w.cell? ⟨b, off + j, none⟩ = some (V j) := by
  obtain ⟨b, off, spot⟩ := a
  have hspot : spot = none := by simpa [Addr.add] using World.cell?_spot (h 0 hp)
  subst hspot
  exact ⟨b, off, rfl, fun j hj => by rw [← Go.WideShapes.add_plain]; exact h j hj⟩

/-- the bools that came in -/
theorem bools_of {H : Type} {enc : TypeId × Value → H} {W : World} {a : Option Addr} {len cap : Nat} {d : DataW H} {p : List MemPlace} {base : Nat} {sp : Nat → Bool} {held : Bool}
    (h : DataW.Trod enc Try.prog W base sp held 29 (.slice a len cap) d p) :
    ∃ E : Nat → Bool, Bools W a len E ∧ (a = none → len = 0 ∧ cap = 0) ∧ len ≤ 9223372036854775807 := by
  obtain ⟨fuel, hf⟩ := h
  rcases Go.Deep.open_slice1 Try.underlying29 (by kernel_rfl) hf with ⟨hcs, _⟩ | ⟨x, l, c, m, n, V, D, Pl, hcs, _, hl, hm, hmm, _, hx⟩
  · simp [Value.cells] at hcs
    obtain ⟨rfl, rfl, rfl⟩ := hcs
    exact ⟨fun _ => false, fun i hi => absurd hi (Nat.not_lt_zero _), fun _ => ⟨rfl, rfl⟩, by omega⟩
  · simp [Value.cells] at hcs
    obtain ⟨rfl, rfl, rfl⟩ := hcs
    have hle : len ≤ m := by rw [hmm]; split <;> omega
    obtain ⟨E, hE⟩ := Go.Deep.choose_lt (α := Bool) (p := fun i b => V i = .bool b) (n := m) (fun i hi => by
      obtain ⟨b, h1, _⟩ := DataW.trod_bool Try.underlying4 (hx i hi).2
      exact ⟨b, by simpa using h1⟩)
    refine ⟨E, fun i hi => ?_, (fun h => by cases h), Nat.le_trans hl (Nat.le_trans hm (by unfold maxLen; omega))⟩
    obtain ⟨b, off, rfl, hc⟩ := cells_at (fun i hi => (hx i hi).1) (show 0 < m by omega)
    exact ⟨b, off, rfl, by rw [hc i (by omega), hE i (by omega)]⟩

/-- one slice of strings -/
theorem strs_of {H : Type} {enc : TypeId × Value → H} {W : World} {v : Value} {x : DataW H × List MemPlace} {base fuel : Nat} {sp : Nat → Bool} {held : Bool}
    (h : DataW.trod enc Try.prog W base sp held fuel 32 [v] = some x) :
    ∃ (l : List Str) (ai : Option Addr) (ci : Nat), v = .slice ai l.length ci ∧ CapOk ai l.length ci ∧ Strs W ai l ∧ l.length ≤ 9223372036854775807 := by
  rcases open_strings Try.underlying32 Try.underlying9 (by kernel_rfl) h with ⟨hcs, _⟩ | ⟨a, len, cap, ss, hcs, _, hl, hm, hz, _, hcell, _⟩
  · refine ⟨[], none, 0, by simpa using hcs, ⟨Nat.le_refl _, fun _ => rfl⟩, fun i hi => absurd hi (Nat.not_lt_zero _), by simp⟩
  · have hle : len ≤ ss.length := by rw [hz]; split <;> omega
    have hlen : ((ss.take len).map fun s => s.data.toList).length = len := by rw [List.length_map, List.length_take]; omega
    refine ⟨(ss.take len).map fun s => s.data.toList, some a, cap, by rw [hlen]; simpa using hcs, ⟨by rw [hlen]; exact hl, fun h => by cases h⟩, fun i hi => ?_, by rw [hlen]; exact Nat.le_trans hl (Nat.le_trans hm (by unfold maxLen; omega))⟩
    rw [hlen] at hi
    obtain ⟨b, off, rfl, hc⟩ := cells_at hcell (show 0 < ss.length by omega)
    refine ⟨b, off, rfl, ?_⟩
    rw [hc i (by omega)]
    have e1 : ((ss.take len).map fun s => s.data.toList).getD i [] = (ss.getD i ByteArray.empty).data.toList := by
      rw [List.getD_eq_getElem?_getD, List.getD_eq_getElem?_getD, List.getElem?_map, List.getElem?_take, if_pos hi, List.getElem?_eq_getElem (by omega)]
      rfl
    rw [e1]

/-- the names that came in -/
theorem names_of {H : Type} {enc : TypeId × Value → H} {W : World} {a : Option Addr} {len cap : Nat} {d : DataW H} {p : List MemPlace} {base : Nat} {sp : Nat → Bool} {held : Bool}
    (h : DataW.Trod enc Try.prog W base sp held 30 (.slice a len cap) d p) :
    ∃ N : Nat → List Str, Names W a len N ∧ len ≤ 9223372036854775807 ∧ ∀ i, i < len → (N i).length ≤ 9223372036854775807 := by
  obtain ⟨fuel, hf⟩ := h
  rcases Go.Deep.open_slice1 Try.underlying30 (by kernel_rfl) hf with ⟨hcs, _⟩ | ⟨x, l, c, m, n, V, D, Pl, hcs, _, hl, hm, hmm, _, hx⟩
  · simp [Value.cells] at hcs
    obtain ⟨rfl, rfl, rfl⟩ := hcs
    exact ⟨fun _ => [], fun i hi => absurd hi (Nat.not_lt_zero _), by omega, fun i hi => absurd hi (Nat.not_lt_zero _)⟩
  · simp [Value.cells] at hcs
    obtain ⟨rfl, rfl, rfl⟩ := hcs
    have hle : len ≤ m := by rw [hmm]; split <;> omega
    obtain ⟨N, hN⟩ := Go.Deep.choose_lt (α := List Str) (p := fun i l => ∃ (ai : Option Addr) (ci : Nat), V i = .slice ai l.length ci ∧ CapOk ai l.length ci ∧ Strs W ai l ∧ l.length ≤ 9223372036854775807) (n := m) (fun i hi => strs_of (hx i hi).2)
    refine ⟨N, fun i hi => ?_, Nat.le_trans hl (Nat.le_trans hm (by unfold maxLen; omega)), fun i hi => ?_⟩
    · obtain ⟨b, off, rfl, hc⟩ := cells_at (fun i hi => (hx i hi).1) (show 0 < m by omega)
      obtain ⟨ai, ci, hv, hcap, hs, _⟩ := hN i (by omega)
      exact ⟨b, off, ai, ci, rfl, by rw [hc i (by omega), hv], hcap, hs⟩
    · obtain ⟨_, _, _, _, _, h⟩ := hN i (by omega)
      exact h

end Go.Proofs.Qxb6605708a.Uni
