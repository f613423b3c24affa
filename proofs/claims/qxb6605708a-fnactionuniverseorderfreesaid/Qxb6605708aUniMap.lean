/-
  The book's map from list texts to sets: what a look-up answers, what a store turns.
-/
import Derived.Test.Qxb6605708aUniSort
import Derived.Maps.OwnSet
namespace Go.Proofs.Qxb6605708a.Uni
open Go.RowKit
set_option linter.unusedVariables false

/-- how an element reads: a pointer to a block's head, by the block's number -/
def ptrElem (v : Value) : Option (DataW Unit × List MemPlace) :=
  match v with
  | .pointer none => some (.lit (.bool false), [])
  | .pointer (some ⟨b, 0, none⟩) => some (.lit (.int .i64 b), [])
  | _ => none
def nilD : DataW Unit := .lit (.bool false)
def ptrD (b : Nat) : DataW Unit := .lit (.int .i64 b)

theorem ptrElem_nil : ptrElem (.pointer none) = some (nilD, []) := rfl
theorem ptrElem_ptr (b : Nat) : ptrElem (.pointer (some ⟨b, 0, none⟩)) = some (ptrD b, []) := rfl

theorem ptrElem_inv {v : Value} {z : DataW Unit × List MemPlace} (h : ptrElem v = some z) : (v = .pointer none ∧ z.1 = nilD) ∨ ∃ b, v = .pointer (some ⟨b, 0, none⟩) ∧ z.1 = ptrD b := by
  unfold ptrElem at h
  split at h
  · cases h; exact .inl ⟨rfl, rfl⟩
  · cases h; exact .inr ⟨_, rfl, rfl⟩
  · cases h

theorem nil_ne_ptr (b : Nat) : nilD ≠ ptrD b := by intro h; simp [nilD, ptrD] at h
theorem ptrD_inj {a b : Nat} (h : ptrD a = ptrD b) : a = b := by simp [ptrD] at h; omega

theorem keyed9 : Maps.Keyed Try.prog 9 := Maps.string_keyed Try.underlying9
theorem zero40 (w : World) : (zeroValue 40).run Try.prog w = .ok (.pointer none) w := by kernel_rfl
theorem key9 (x : Str) (h : List.length x ≤ maxLen) : keyOf Try.prog 9 (sv x) = some (.string x) := Go.WideMaps.keyOf_string_mk Try.underlying9 (s := ⟨x.toArray⟩) h

structure MapInv (w : World) (bm : Nat) (K : Nat → Str) (k : Nat) (sb : Nat → Nat) (D : DataW Unit) : Prop where
  own : w.ownsMap Try.prog 9 ptrElem bm k D
  has : ∀ x : Str, Maps.has D (.string x) = (fi k K x).isSome
  at_ : ∀ (x : Str) i, fi k K x = some i → D.atKey (.string x) nilD = ptrD (sb i)
  size : Maps.size D = cf K k

theorem MapInv.kept {w w' : World} {bm : Nat} {K : Nat → Str} {k : Nat} {sb : Nat → Nat} {D : DataW Unit} {row : Option Nat} (h : MapInv w bm K k sb D) (hg : w.grownBy w' row) (hne : some bm ≠ row) : MapInv w' bm K k sb D :=
  ⟨h.own.kept hg hne, h.has, h.at_, h.size⟩

theorem below_grown {B : Nat} {w w' : World} (h : Below B w w') (hB : w.heap.size ≤ B) : w.grownBy w' none := ⟨h.os, h.tape, h.output, h.size, fun k hk _ => h.block k (by omega)⟩

theorem MapInv.below {w w' : World} {bm : Nat} {K : Nat → Str} {k : Nat} {sb : Nat → Nat} {D : DataW Unit} (h : MapInv w bm K k sb D) (hb : Below w.heap.size w w') : MapInv w' bm K k sb D := h.kept (below_grown hb (Nat.le_refl _)) (by simp)

/-- what the look-up hands back -/
def found (K : Nat → Str) (k : Nat) (sb : Nat → Nat) (x : Str) : Option Addr := match fi k K x with
  | none => none
  | some i => some ⟨sb i, 0, none⟩

theorem MapInv.look {w : World} {bm : Nat} {K : Nat → Str} {k : Nat} {sb : Nat → Nat} {D : DataW Unit} (h : MapInv w bm K k sb D) (x : Str) (hx : List.length x ≤ maxLen) :
    (Instr.lookup 50 (.map (some bm)) (sv x) false).run Try.prog w = .ok (.pointer (found K k sb x)) w := by
  obtain ⟨v, ps, hrun, hv⟩ := h.own.lookup keyed9 Try.underlying50 (zero40 w) ptrElem_nil (key9 x hx)
  rw [hrun]
  unfold found
  cases hf : fi k K x with
  | none =>
    have hh := h.has x
    rw [hf] at hh
    rw [Maps.atKey_of_not_has hh] at hv
    rcases ptrElem_inv hv with ⟨rfl, _⟩ | ⟨b, rfl, hz⟩
    · rfl
    · exact absurd hz (nil_ne_ptr b)
  | some i =>
    rw [h.at_ x i hf] at hv
    rcases ptrElem_inv hv with ⟨rfl, hz⟩ | ⟨b, rfl, hz⟩
    · exact absurd hz.symm (nil_ne_ptr _)
    · have e := ptrD_inj hz
      subst e
      rfl

theorem MapInv.len {w : World} {bm : Nat} {K : Nat → Str} {k : Nat} {sb : Nat → Nat} {D : DataW Unit} (h : MapInv w bm K k sb D) (ty : TypeId) : (Builtin.len_ #[50] ty #[.map (some bm)]).run Try.prog w = .ok (.int .i64 (cf K k : Nat)) w := by
  rw [← h.size]
  exact h.own.len Try.underlying50 ty

theorem mapInv_made (w : World) (K : Nat → Str) (sb : Nat → Nat) : MapInv (w.alloc (.map #[] 0)) w.heap.size K 0 sb (.map []) :=
  ⟨World.ownsMap_made w Try.prog 9 ptrElem, fun x => rfl, fun x i h => by simp [fi] at h, rfl⟩

theorem MapInv.skip {w : World} {bm : Nat} {K : Nat → Str} {k : Nat} {sb : Nat → Nat} {D : DataW Unit} (h : MapInv w bm K k sb D) {i : Nat} (hf : fi k K (K k) = some i) : MapInv w bm K (k + 1) sb D := by
  have e : ∀ x, fi (k + 1) K x = fi k K x := fun x => by
    cases hx : fi k K x with
    | some j => exact fi_succ_some hx
    | none =>
      rw [fi_succ_none hx, if_neg]
      intro e
      rw [e, hx] at hf
      cases hf
  refine ⟨h.own.mono (Nat.le_succ _), fun x => by rw [e]; exact h.has x, fun x i hi => h.at_ x i (by rw [← e]; exact hi), ?_⟩
  rw [cf_succ, if_neg (by rw [hf]; simp)]
  exact h.size

/-- the block of the k-th list's set laid down -/
def upd (sb : Nat → Nat) (k s : Nat) : Nat → Nat := fun i => if i = k then s else sb i
theorem upd_same (sb : Nat → Nat) (k s : Nat) : upd sb k s k = s := if_pos rfl
theorem upd_lt (sb : Nat → Nat) {k s i : Nat} (h : i < k) : upd sb k s i = sb i := if_neg (by omega)

theorem MapInv.put {w w' : World} {bm : Nat} {K : Nat → Str} {k : Nat} {sb : Nat → Nat} {D : DataW Unit} (h : MapInv w bm K k sb D) (hf : fi k K (K k) = none) (s : Nat) (hown : w'.ownsMap Try.prog 9 ptrElem bm (k + 1) (D.put (.string (K k)) (ptrD s))) :
    MapInv w' bm K (k + 1) (upd sb k s) (D.put (.string (K k)) (ptrD s)) := by
  have hk : WideAt.IsKeyLit (.string (K k)) := trivial
  have hm := h.own.isMap
  refine ⟨hown, fun x => ?_, fun x i hi => ?_, ?_⟩
  · by_cases e : x = K k
    · subst e
      rw [Maps.has_put_same hm hk, fi_succ_none hf, if_pos rfl]
      rfl
    · rw [Maps.has_put_other (by intro e'; cases e'; exact e rfl), h.has]
      cases hx : fi k K x with
      | some j => rw [fi_succ_some hx]
      | none => rw [fi_succ_none hx, if_neg (fun e' => e e'.symm)]
  · by_cases e : x = K k
    · subst e
      rw [fi_succ_none hf, if_pos rfl] at hi
      cases hi
      rw [Maps.atKey_put_same hm hk, upd_same]
    · rw [Maps.atKey_put_other (by intro e'; cases e'; exact e rfl)]
      cases hx : fi k K x with
      | some j =>
        rw [fi_succ_some hx] at hi
        cases hi
        rw [upd_lt sb (fi_some hx).1]
        exact h.at_ x _ hx
      | none =>
        rw [fi_succ_none hx, if_neg (fun e' => e e'.symm)] at hi
        cases hi
  · have hh : Maps.has D (.string (K k)) = false := by rw [h.has, hf]; rfl
    rw [Maps.size_put (h.own.tidy keyed9), hh, cf_succ, if_pos hf, h.size]
    rfl
end Go.Proofs.Qxb6605708a.Uni
