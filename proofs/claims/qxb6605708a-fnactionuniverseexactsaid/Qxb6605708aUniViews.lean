/-
  How the arguments of the two laws on action universes lie in memory: views that the walks take.
-/
import Derived.Test.Qxb6605708aRows
import Derived.Test.Qxb6605708aUniPlain
import Derived.WalkKit
import Derived.WalkSpells
import Derived.Sort.EncStr
import Derived.Deep.QuietTactic
import Derived.BigQuiet
namespace Go.Proofs.Qxb6605708a.Uni
open Go.RowKit

/-- a string's value -/
abbrev sv (x : Str) : Value := .string ⟨x.toArray⟩

/-- a slice of strings: the i-th cell holds the i-th of l -/
def Strs (w : World) (a : Option Addr) (l : List Str) : Prop := ∀ i, i < l.length → ∃ b off, a = some ⟨b, off, none⟩ ∧ w.cell? ⟨b, off + i, none⟩ = some (sv (l.getD i []))
/-- a slice's room; a nil slice has none -/
def CapOk (a : Option Addr) (n c : Nat) : Prop := n ≤ c ∧ (a = none → c = 0)
/-- a slice of n slices of strings -/
def Names (w : World) (a : Option Addr) (n : Nat) (N : Nat → List Str) : Prop :=
  ∀ i, i < n → ∃ b off ai ci, a = some ⟨b, off, none⟩ ∧ w.cell? ⟨b, off + i, none⟩ = some (.slice ai (N i).length ci) ∧ CapOk ai (N i).length ci ∧ Strs w ai (N i)
/-- a slice of n bools -/
def Bools (w : World) (a : Option Addr) (n : Nat) (E : Nat → Bool) : Prop := ∀ i, i < n → ∃ b off, a = some ⟨b, off, none⟩ ∧ w.cell? ⟨b, off + i, none⟩ = some (.bool (E i))
/-- a slice of n int32s -/
def Ints (w : World) (a : Option Addr) (n : Nat) (f : Nat → Int) : Prop := ∀ i, i < n → ∃ b off, a = some ⟨b, off, none⟩ ∧ w.cell? ⟨b, off + i, none⟩ = some (.int .i32 (f i))

theorem cell_below {w w' : World} {p : Addr} {v : Value} (hb : Below w.heap.size w w') (h : w.cell? p = some v) : w'.cell? p = some v := (hb.cell (World.block_lt_of_cell? w _ h)).trans h

theorem Strs.below {w w' : World} {a : Option Addr} {l : List Str} (h : Strs w a l) (hb : Below w.heap.size w w') : Strs w' a l := by
  intro i hi
  obtain ⟨b, off, ha, hc⟩ := h i hi
  exact ⟨b, off, ha, cell_below hb hc⟩

theorem Names.below {w w' : World} {a : Option Addr} {n : Nat} {N : Nat → List Str} (h : Names w a n N) (hb : Below w.heap.size w w') : Names w' a n N := by
  intro i hi
  obtain ⟨b, off, ai, ci, ha, hc, hl, hs⟩ := h i hi
  exact ⟨b, off, ai, ci, ha, cell_below hb hc, hl, hs.below hb⟩

theorem Bools.below {w w' : World} {a : Option Addr} {n : Nat} {E : Nat → Bool} (h : Bools w a n E) (hb : Below w.heap.size w w') : Bools w' a n E := by
  intro i hi
  obtain ⟨b, off, ha, hc⟩ := h i hi
  exact ⟨b, off, ha, cell_below hb hc⟩

theorem Ints.below {w w' : World} {a : Option Addr} {n : Nat} {f : Nat → Int} (h : Ints w a n f) (hb : Below w.heap.size w w') : Ints w' a n f := by
  intro i hi
  obtain ⟨b, off, ha, hc⟩ := h i hi
  exact ⟨b, off, ha, cell_below hb hc⟩

theorem draws (w : World) (q : Nat) : Below w.heap.size w (w.drewN q) := ⟨rfl, rfl, rfl, Nat.le_refl _, fun _ _ => rfl⟩

/-- some bool comes back; nothing has turned -/
def BoolPost (w : World) (e : Ending) (w' : World) : Prop := ∃ r : Bool, e = .returned (.bool r) ∧ w' = w

theorem ret_bool {a b : Bool} (h : a = b) : Ending.returned (.bool a) = .returned (.bool b) := by rw [h]
theorem ret_int {k : IntKind} {a b : Int} (h : a = b) : Ending.returned (.int k a) = .returned (.int k b) := by rw [h]
theorem int_eq {k : IntKind} {a b : Int} (h : a = b) : Value.int k a = .int k b := by rw [h]

end Go.Proofs.Qxb6605708a.Uni
