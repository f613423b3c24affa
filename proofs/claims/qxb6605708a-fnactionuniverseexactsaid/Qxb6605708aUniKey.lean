/-
  listKey (24) and actionsKey (30): the text of a list.
-/
import Derived.Test.Qxb6605708aUniStrs
import Derived.Lib.AppendStr
import Derived.Laws.BytesArg
namespace Go.Proofs.Qxb6605708a.Uni
open Go.RowKit
set_option linter.unusedVariables false

theorem info5 : (Try.prog.info? 5).map (fun i => (i.zero, i.size, i.bytes)) = some (some (.int .u8 0), 1, 1) := by kernel_rfl

def byteCells (x : Str) : List Value := x.map fun b => Value.int .u8 b.toNat
theorem byteCells_length (x : Str) : (byteCells x).length = List.length x := by simp [byteCells]
theorem byteCells_append (x y : Str) : byteCells (x ++ y) = byteCells x ++ byteCells y := by simp [byteCells]
theorem strCells_mk (x : Str) : Lib.strCells ⟨x.toArray⟩ = byteCells x := rfl

/-! ### the joined text, name by name -/
theorem join_snoc (l : List Str) (x : Str) : Lib.join (l ++ [x]) [44] = if l = [] then x else Lib.join l [44] ++ 44 :: x := by
  cases l with
  | nil => simp [Lib.join_one]
  | cons y r => rw [if_neg (by simp), List.cons_append, Lib.join_cons, Lib.join_cons]; simp [Lib.joinTail]

theorem join_len (l : List Str) : List.length (Lib.join l [44]) ≤ bytL l := by
  cases l with
  | nil => simp [Lib.join_nil]
  | cons x r =>
    rw [Lib.join_cons]
    have : List.length (Lib.joinTail [44] r) ≤ bytL r := by
      induction r with
      | nil => simp [Lib.joinTail]
      | cons y r ih =>
        have e : Lib.joinTail [44] (y :: r) = 44 :: y ++ Lib.joinTail [44] r := by simp [Lib.joinTail]
        rw [e]
        simp only [List.length_append, List.length_cons, bytL]
        omega
    simp only [List.length_append, bytL]
    omega

theorem bytL_take_le (l : List Str) (k : Nat) : bytL (l.take k) ≤ bytL l := by
  have h := bytL_append (l.take k) (l.drop k)
  rw [List.take_append_drop] at h
  omega

/-- a row of bytes of the call's own, turned into a string -/
theorem conv_own {base : Nat} {wr : World} {v : Value} {n : Nat} {x : Str} (h : wr.ownsRow base 5 1 v n (byteCells x)) : (convert 65 9 v).run Try.prog wr = .ok (sv x) wr := by
  have hl : List.length x = n := by have := h.1; rw [byteCells_length] at this; omega
  rcases h.2 with ⟨rfl, h0⟩ | ⟨g, cap, cur, rfl, hb, hg, hnc, hcm, hcs, htake⟩
  · obtain rfl : x = [] := List.eq_nil_of_length_eq_zero (by omega)
    exact run_convert_bytes_nil (P := Try.prog) wr 65 5 Try.underlying65 Try.underlying5 0 0 9 Try.underlying9
  · have hc := run_convert_bytes_arg (P := Try.prog) wr 65 5 Try.underlying65 Try.underlying5 g 0 n cap (x.map fun b => (b.toNat : Int)) (by simpa using hl) (fun i hi => by
      rw [Nat.zero_add, h.cellAt i (by omega)]
      have hi' : i < List.length x := by omega
      simp [byteCells, hi']) 9 Try.underlying9
    rw [hc]
    have e : strOfNums (x.map fun b => (b.toNat : Int)) = ⟨x.toArray⟩ := by
      have h2 : (x.map fun b => (b.toNat : Int)).map (fun n => UInt8.ofNat n.toNat) = x := by
        rw [List.map_map]
        exact (List.map_congr_left fun b _ => by simp).trans (List.map_id x)
      unfold strOfNums
      rw [h2]
    rw [e]

/-! ### listKey -/
theorem listKey_every (a : Option Addr) (n c : Nat) (w : World) : Calls Try.prog 24 #[.bool true, .slice a n c] w fun e w' => e = .returned (sv [42]) ∧ w' = w := by
  go_enter Try.func24, Try.ntmps24
  go_wp2
  go_ret
  exact ⟨rfl, rfl⟩

theorem one_cell (v : Value) (h : v.oneCell' = true) : ∀ u ∈ [v], u.oneCell' = true := by
  intro u hu
  simp at hu
  subst hu
  exact h

set_option maxHeartbeats 1000000 in
theorem listKey_names (a : Option Addr) (c : Nat) (l : List Str) (w : World) (hs : Strs w a l) (hb : bytL l ≤ 1048576) (hl : l.length ≤ 1048576) :
    Calls Try.prog 24 #[.bool false, .slice a l.length c] w fun e w' => e = .returned (sv (Lib.join l [44])) ∧ Below w.heap.size w w' := by
  obtain ⟨i0, hi, hz0, hz1, hz2⟩ := info_parts info5
  go_enter Try.func24, Try.ntmps24
  go_wp2
  go_loopw [5, 6] (fun v i wr => ∃ k : Nat, k ≤ l.length ∧ i = .int .i64 k ∧ wr.ownsRow w.heap.size 5 1 v (List.length (Lib.join (l.take k) [44])) (byteCells (Lib.join (l.take k) [44])) ∧ Below w.heap.size w wr) (fun _ i _ => l.length - (intOf i).toNat)
  case atStart => exact ⟨0, Nat.zero_le _, rfl, World.ownsRow_nil _ _ _ _, Below.refl _ _⟩
  case round =>
    obtain ⟨k, hk, rfl, hown, hbel⟩ := hrel
    rename_i v _
    by_cases hlt : k < l.length
    · obtain ⟨b, off, rfl, hc0⟩ := hs k hlt
      have hc := cell_below hbel hc0
      have hbw : b < w.heap.size := World.block_lt_of_cell? w _ hc0
      clear hc0
      rw [getD_mem hlt] at hc
      have hbk := World.block_lt_of_cell? wr _ hc
      have HT : Hid (l.take (k + 1) = l.take k ++ [l[k]]) := List.take_succ_eq_append_getElem hlt
      have HJ : Hid (Lib.join (l.take (k + 1)) [44] = if l.take k = [] then l[k] else Lib.join (l.take k) [44] ++ 44 :: l[k]) := by show _ = _; rw [HT.out, join_snoc]
      have hjl := Nat.le_trans (Nat.le_trans (join_len (l.take (k + 1))) (bytL_take_le l (k + 1))) hb
      have HK : Hid (l.take k = [] ↔ k = 0) := by show _ ↔ _; rw [List.take_eq_nil_iff]; constructor
                                                  · rintro (h | h)
                                                    · exact h
                                                    · rw [h] at hlt; simp at hlt
                                                  · exact .inl
      obtain ⟨J1, hJ1⟩ : ∃ J1, Lib.join (l.take (k + 1)) [44] = J1 := ⟨_, rfl⟩
      rw [hJ1] at HJ hjl
      have HE : Hid (Lib.join (l.take (k + 1)) [44] = J1) := hJ1
      clear hJ1
      obtain ⟨J, hJ⟩ : ∃ J, Lib.join (l.take k) [44] = J := ⟨_, rfl⟩
      rw [hJ] at HJ hown
      have HG : Hid (Lib.join (l.take k) [44] = J) := hJ
      clear hJ
      generalize l[k] = x at *
      by_cases hk0 : k = 0
      · rw [if_pos (HK.out.2 hk0)] at HJ
        have HJ0 : Hid (J = []) := by
          show J = []
          rw [← HG.out, HK.out.2 hk0]
          rfl
        have HJL : Hid (List.length J ≤ 0) := by show _ ≤ _; rw [HJ0.out]; simp
        have hjx : List.length J1 = List.length x := by rw [HJ.out]
        subst hk0
        rw [Nat.add_zero] at hc
        go_wp2_with (at_builtin; go_must (refine Lib.wpList_append_own_string _ rfl (.tmp 19) (.tmp 23) 65 9 rfl w.heap.size 5 i0 Try.underlying65 Try.underlying9 hi hz0 hz1 hz2 u5 (List.length J) (byteCells J) rfl hown ⟨x.toArray⟩ rfl ?d1 ?d2 ?d3 ?_))
        case d1 => have := HJL.out; unfold maxLen; show List.length J + List.length x ≤ _; omega
        case d2 => have := HJL.out; show List.length J + List.length x ≤ _; omega
        case d3 => exact hbel.size
        intro v2 w2 hown2 hg2 hn2
        clear hn2 hc
        go_wp2
        go_roundw
        case rel =>
          refine ⟨0 + 1, by omega, by go_num, ?_, hbel.grown hg2 hbel.size (fun j hj => (hown.lt j hj).1)⟩
          rw [HE.out, HJ.out]
          rw [HJ0.out] at hown2
          have e : List.length ([] : Str) + List.length x = List.length x := Nat.zero_add _
          exact e ▸ hown2
        case measure => simp [intOf]; omega
      · rw [if_neg (fun h => hk0 (HK.out.1 h))] at HJ
        have hk1 : 0 < k := by omega
        have hjx : List.length J1 = List.length J + 1 + List.length x := by rw [HJ.out]; simp; omega
        clear hk0
        go_wp2_with (at_builtin; go_must (refine wpList_append_own _ rfl (.tmp 16) (.tmp 17) 65 rfl w.heap.size 5 i0 (.int .u8 0) 1 1 Try.underlying65 hi hz0 hz1 hz2 rfl (by decide) u5 (List.length J) (byteCells J) rfl (hown.alloc _) ⟨wr.heap.size, 0, none⟩ 1 1 [.int .u8 44] rfl rfl ?c1 ?c2 ?c3 ?c4 ?c5 ?_))
        case c2 => rfl
        case c3 => unfold maxLen; omega
        case c4 => omega
        case c5 => have := hbel.size; omega
        intro v1 w1 hown1 hg1 hn1
        have hbel1 : Below w.heap.size w w1 := (hbel.alloc hbel.size _).grown hg1 (by have := hbel.size; simp; omega) (fun j hj => (hown.lt j hj).1)
        have hc1 : w1.cell? ⟨b, off + k, none⟩ = some (sv x) := by
          have h1 : b < w.heap.size := hbw
          exact (hbel1.cell (p := ⟨b, off + k, none⟩) h1).trans ((hbel.cell (p := ⟨b, off + k, none⟩) h1).symm.trans hc)
        clear hc hn1
        go_wp2_with (at_builtin; go_must (refine Lib.wpList_append_own_string _ rfl (.tmp 19) (.tmp 23) 65 9 rfl w.heap.size 5 i0 Try.underlying65 Try.underlying9 hi hz0 hz1 hz2 v1 (List.length J + 1) (byteCells J ++ [.int .u8 44]) rfl hown1 ⟨x.toArray⟩ rfl ?d1 ?d2 ?d3 ?_))
        case d1 => unfold maxLen; show List.length J + 1 + List.length x ≤ _; omega
        case d2 => show List.length J + 1 + List.length x ≤ _; omega
        case d3 => exact hbel1.size
        intro v2 w2 hown2 hg2 hn2
        clear hn2 hc1
        go_wp2
        go_roundw
        case rel =>
          refine ⟨k + 1, by omega, by go_num, ?_, hbel1.grown hg2 hbel1.size (fun j hj => (hown1.lt j hj).1)⟩
          rw [HE.out, hjx, HJ.out, byteCells_append]
          exact hown2
        case measure => simp [intOf]; omega
    · obtain rfl : k = l.length := by omega
      rw [List.take_of_length_le (Nat.le_refl _)] at hown
      have hcv := conv_own hown
      go_wp2
      go_ret
      exact ⟨rfl, hbel⟩

theorem listKey_any (e : Bool) (a : Option Addr) (c : Nat) (l : List Str) (w : World) (hs : Strs w a l) (hb : bytL l ≤ 1048576) (hl : l.length ≤ 1048576) :
    Calls Try.prog 24 #[.bool e, .slice a l.length c] w fun r w' => r = .returned (sv (key e l)) ∧ Below w.heap.size w w' := by
  cases e with
  | true => exact (listKey_every a l.length c w).mono fun r w' ⟨hr, hw⟩ => ⟨hr, by rw [hw]; exact Below.refl _ _⟩
  | false => exact listKey_names a c l w hs hb hl
end Go.Proofs.Qxb6605708a.Uni
