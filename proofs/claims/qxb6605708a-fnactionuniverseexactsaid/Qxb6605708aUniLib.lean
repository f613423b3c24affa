/-
  The library's Join (34) and BinarySearch (31), in this proof's own words; actionsKey (30).
-/
import Derived.Test.Qxb6605708aUniKey
import Derived.Test.Qxb6605708aShelf
namespace Go.Proofs.Qxb6605708a.Uni
open Go.RowKit
set_option linter.unusedVariables false

theorem join_any (a : Option Addr) (c : Nat) (l : List Str) (w : World) (hs : Strs w a l) (hcap : l.length ≤ c) (hb : bytL l ≤ 1048576) (hl : l.length ≤ 1048576) :
    Calls Try.prog 34 #[.slice a l.length c, .string ⟨#[44]⟩] w fun e w' => e = .returned (sv (Lib.join l [44])) ∧ Below w.heap.size w w' := by
  by_cases h0 : l.length = 0
  · obtain rfl : l = [] := List.eq_nil_of_length_eq_zero h0
    exact (Try.strings_Join_none a c ⟨#[44]⟩ w).mono fun e w' ⟨he, hw⟩ => ⟨he, by rw [hw]; exact Below.refl _ _⟩
  · obtain ⟨b, off, rfl, hc0⟩ := hs 0 (by omega)
    have hj := Try.strings_Join b off c (l.map fun x => ⟨x.toArray⟩) ⟨#[44]⟩ w (fun j x hx => by
      rw [List.getElem?_map, Option.map_eq_some_iff] at hx
      obtain ⟨y, hy, rfl⟩ := hx
      have hjl : j < l.length := (List.getElem?_eq_some_iff.1 hy).1
      obtain ⟨b', off', he, hc⟩ := hs j hjl
      simp only [Option.some.injEq, Addr.mk.injEq, and_true] at he
      obtain ⟨rfl, rfl⟩ := he
      rw [hc, List.getD_eq_getElem?_getD, hy]
      rfl) (World.block_lt_of_cell? w _ hc0) (by simp; omega) (by simpa using hcap) (by
      have e : (l.map fun x => (⟨x.toArray⟩ : ByteArray)).map (·.data.toList) = l := by rw [List.map_map]; exact (List.map_congr_left fun _ _ => rfl).trans (List.map_id l)
      rw [e]
      have := join_len l
      show List.length (Lib.join l [44]) ≤ _
      omega)
    have e : (l.map fun x => (⟨x.toArray⟩ : ByteArray)).map (·.data.toList) = l := by rw [List.map_map]; exact (List.map_congr_left fun _ _ => rfl).trans (List.map_id l)
    rw [e, List.length_map] at hj
    exact hj

theorem search_any (a : Option Addr) (c : Nat) (U : List Str) (x : Str) (w : World) (hs : Strs w a U) (hU : U.Pairwise (· < ·)) (hl : U.length ≤ 1048576) :
    Calls Try.prog 31 #[.slice a U.length c, sv x] w fun e w' => ∃ r : Bool, e = .returned (.tuple #[.int .i64 (below U x : Nat), .bool r]) ∧ ∃ q, w' = w.drewN q := by
  by_cases h0 : U.length = 0
  · obtain rfl : U = [] := List.eq_nil_of_length_eq_zero h0
    exact (Try.slices_BinarySearch_string_empty a c ⟨x.toArray⟩ w).mono fun e w' ⟨he, hw⟩ => ⟨false, he, 0, hw⟩
  · obtain ⟨b, off, rfl, hc0⟩ := hs 0 (by omega)
    have hj := Try.slices_BinarySearch_string b off U.length c (fun t => ⟨(if t < U.length then U.getD t [] else x).toArray⟩) ⟨x.toArray⟩ w (by omega) (fun j hj => by
      obtain ⟨b', off', he, hc⟩ := hs j hj
      simp only [Option.some.injEq, Addr.mk.injEq, and_true] at he
      obtain ⟨rfl, rfl⟩ := he
      rw [hc, if_pos hj])
    have e : Lib.bsGo (fun t => Op.bytesLess (ByteArray.mk (if t < U.length then U.getD t [] else x).toArray).toList (ByteArray.mk x.toArray).toList) U.length 0 U.length = below U x := by
      refine search U x hU _ (fun t ht => ?_) (fun t ht => ?_)
      · show Op.bytesLess (ByteArray.mk (if t < U.length then U.getD t [] else x).toArray).toList (ByteArray.mk x.toArray).toList = _
        rw [if_pos ht, ByteArray.toList_mk, ByteArray.toList_mk, bytesLess_eq]
      · show Op.bytesLess (ByteArray.mk (if t < U.length then U.getD t [] else x).toArray).toList (ByteArray.mk x.toArray).toList = _
        rw [if_neg (by omega), ByteArray.toList_mk, bytesLess_eq, decide_eq_false_iff_not]
        exact List.lt_irrefl _
    refine hj.mono fun r w' ⟨he, hw⟩ => ?_
    rw [e] at he
    exact ⟨_, he, hw⟩

/-! ### actionsKey -/
theorem akey_every (a : Option Addr) (n c : Nat) (w : World) : Calls Try.prog 30 #[.agg #[.bool true, .slice a n c]] w fun e w' => e = .returned (sv [42]) ∧ Below w.heap.size w w' := by
  go_enter Try.func30, Try.ntmps30
  go_wp2
  go_ret
  exact ⟨rfl, (Below.refl _ _).alloc (Nat.le_refl _) _⟩

theorem akey_names (a : Option Addr) (c : Nat) (l : List Str) (w : World) (hs : Strs w a l) (hcap : l.length ≤ c) (hb : bytL l ≤ 1048576) (hl : l.length ≤ 1048576) :
    Calls Try.prog 30 #[.agg #[.bool false, .slice a l.length c]] w fun e w' => e = .returned (sv (Lib.join l [44])) ∧ Below w.heap.size w w' := by
  have hb1 : ∀ o, Below w.heap.size w (w.alloc o) := fun o => (Below.refl _ _).alloc (Nat.le_refl _) o
  go_enter Try.func30, Try.ntmps30
  go_wp2_with fail
  refine (join_any a c l _ (hs.below (hb1 _)) hcap hb hl).mono ?_
  rintro e w' ⟨rfl, hbj⟩
  go_wp2
  go_ret
  exact ⟨rfl, (hb1 _).trans (hbj.mono (hb1 _).size)⟩

theorem akey_any (e : Bool) (a : Option Addr) (c : Nat) (l : List Str) (w : World) (hs : Strs w a l) (hcap : l.length ≤ c) (hb : bytL l ≤ 1048576) (hl : l.length ≤ 1048576) :
    Calls Try.prog 30 #[.agg #[.bool e, .slice a l.length c]] w fun r w' => r = .returned (sv (key e l)) ∧ Below w.heap.size w w' := by
  cases e with
  | true => exact akey_every a l.length c w
  | false => exact akey_names a c l w hs hcap hb hl
end Go.Proofs.Qxb6605708a.Uni
