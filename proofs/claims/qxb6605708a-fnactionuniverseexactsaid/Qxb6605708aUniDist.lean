/-
  distinctNames (12).
-/
import Derived.Test.Qxb6605708aUniLib
namespace Go.Proofs.Qxb6605708a.Uni
open Go.RowKit
set_option linter.unusedVariables false

theorem info9 : (Try.prog.info? 9).map (fun i => (i.zero, i.size, i.bytes)) = some (some (.string ⟨#[]⟩), 1, 16) := by kernel_rfl

def strCellsL (l : List Str) : List Value := l.map sv
theorem strCellsL_length (l : List Str) : (strCellsL l).length = l.length := by simp [strCellsL]

/-- a row of strings of the call's own, as a slice of strings -/
theorem own_strs {base : Nat} {w : World} {v : Value} {l : List Str} (h : w.ownsRow base 9 1 v l.length (strCellsL l)) : ∃ a c, v = .slice a l.length c ∧ Strs w a l ∧ (l = [] ∨ l.length ≤ c) ∧ (∀ g o, a = some ⟨g, o, none⟩ → base ≤ g) := by
  rcases h.2 with ⟨rfl, h0⟩ | ⟨g, cap, cur, rfl, hb, hg, hnc, hcm, hcs, htake⟩
  · obtain rfl : l = [] := List.eq_nil_of_length_eq_zero h0
    exact ⟨none, 0, rfl, fun i hi => absurd hi (Nat.not_lt_zero _), .inl rfl, fun g o h => by cases h⟩
  · refine ⟨_, _, rfl, fun i hi => ⟨g, 0, rfl, ?_⟩, .inr hnc, fun g' o h => by cases h; exact hb⟩
    rw [Nat.zero_add, h.cellAt i (by omega)]
    simp [strCellsL, hi]

theorem addD_len (o : List Str) (x : Str) : (addD o x).length ≤ o.length + 1 := by
  unfold addD
  split
  · omega
  · simp
theorem addL_len (l o : List Str) : (addL o l).length ≤ o.length + l.length := by
  induction l generalizing o with
  | nil => simp [addL]
  | cons x l ih =>
    have h1 := ih (addD o x)
    have h2 := addD_len o x
    show (addL (addD o x) l).length ≤ _
    simp only [List.length_cons]
    omega
theorem dn_len (N : Nat → List Str) (k : Nat) : (dn N k).length ≤ tot N k := by
  induction k with
  | zero => simp [dn]
  | succ k ih =>
    have := addL_len (N k) (dn N k)
    show (addL (dn N k) (N k)).length ≤ tot N k + (N k).length
    omega
theorem tot_mono (N : Nat → List Str) {k n : Nat} (h : k ≤ n) : tot N k ≤ tot N n := by
  induction n with
  | zero => obtain rfl : k = 0 := by omega
            exact Nat.le_refl _
  | succ n ih =>
    by_cases e : k = n + 1
    · subst e; exact Nat.le_refl _
    · exact Nat.le_trans (ih (by omega)) (Nat.le_add_right _ _)

set_option maxHeartbeats 1000000 in
theorem distinct_any (a : Option Addr) (n c : Nat) (N : Nat → List Str) (w : World) (hN : Names w a n N) (hn : n ≤ 4096) (ht : tot N n ≤ 4096) :
    Calls Try.prog 12 #[.slice a n c] w fun e w' => ∃ v, e = .returned v ∧ w'.ownsRow w.heap.size 9 1 v (dn N n).length (strCellsL (dn N n)) ∧ Below w.heap.size w w' := by
  obtain ⟨i0, hi, hz0, hz1, hz2⟩ := info_parts info9
  go_enter Try.func12, Try.ntmps12
  go_wp2
  go_loopw [3, 4] (fun v i wr => ∃ k : Nat, k ≤ n ∧ i = .int .i64 k ∧ wr.ownsRow w.heap.size 9 1 v (dn N k).length (strCellsL (dn N k)) ∧ Below w.heap.size w wr) (fun _ i _ => n - (intOf i).toNat)
  case atStart => exact ⟨0, Nat.zero_le _, rfl, World.ownsRow_nil _ _ _ _, Below.refl _ _⟩
  case round =>
    obtain ⟨k, hk, rfl, hown, hbel⟩ := hrel
    by_cases hlt : k < n
    · obtain ⟨b, off, ai, ci, rfl, hc, hcap, hs⟩ := hN k hlt
      have hbw : b < w.heap.size := World.block_lt_of_cell? w _ hc
      have hlen : (dn N k).length + (N k).length ≤ 4096 := by
        have h1 := dn_len N k
        have h2 := tot_mono N (show k + 1 ≤ n by omega)
        have h3 : tot N (k + 1) = tot N k + (N k).length := rfl
        omega
      have HD : Hid (dn N (k + 1) = addL (dn N k) (N k)) := rfl
      generalize N k = l at *
      generalize dn N k = D at *
      go_wp2
      go_loopw [3, 5] (fun v i wr => ∃ j : Nat, j ≤ l.length ∧ i = .int .i64 j ∧ wr.ownsRow w.heap.size 9 1 v (addL D (l.take j)).length (strCellsL (addL D (l.take j))) ∧ Below w.heap.size w wr) (fun _ i _ => l.length - (intOf i).toNat)
      case atStart => exact ⟨0, Nat.zero_le _, rfl, hown, hbel⟩
      case round =>
        clear hown hbel
        obtain ⟨j, hj, rfl, hown, hbel⟩ := hrel
        have hcw := cell_below hbel hc
        by_cases hlj : j < l.length
        · obtain ⟨b', off', rfl, hc'⟩ := hs j hlj
          have hbw' : b' < w.heap.size := World.block_lt_of_cell? w _ hc'
          have hcx := cell_below hbel hc'
          rw [getD_mem hlj] at hcx
          have HT : Hid (addL D (l.take (j + 1)) = addD (addL D (l.take j)) l[j]) := by show _ = _; rw [List.take_succ_eq_append_getElem hlj, addL_snoc]
          have hal : (addL D (l.take j)).length < 4096 := by
            have := addL_len (l.take j) D
            simp only [List.length_take] at this
            omega
          generalize l[j] = x at *
          obtain ⟨A, hA⟩ : ∃ A, addL D (l.take j) = A := ⟨_, rfl⟩
          rw [hA] at hown hal HT
          clear hA
          obtain ⟨av, cv, rfl, hstr, _, hge⟩ := own_strs hown
          have HH : Hid (∀ w, Strs w av A → Calls Try.prog 26 #[.slice av A.length cv, sv x] w fun e w' => e = .returned (.bool (has A x)) ∧ w' = w) := fun w hs => holds_any av cv A x w hs (by omega)
          cases hh : has A x with
          | true =>
            rw [hh] at HH
            rw [addD_yes hh] at HT
            clear hh
            go_wp2_with fail
            refine (HH.out _ hstr).mono ?_
            rintro e w' ⟨rfl, hw⟩; subst w'
            go_wp2
            go_roundw
            case rel => exact ⟨j + 1, by omega, by go_num, by rw [HT.out]; exact hown, hbel⟩
            case measure => simp [intOf]; omega
          | false =>
            rw [hh] at HH
            rw [addD_no hh] at HT
            clear hh
            go_wp2_with fail
            refine (HH.out _ hstr).mono ?_
            rintro e w' ⟨rfl, hw⟩; subst w'
            go_wp2_with (at_builtin; go_must (refine wpList_append_own _ rfl (.tmp 31) (.tmp 39) 32 rfl w.heap.size 9 i0 (.string ⟨#[]⟩) 1 16 Try.underlying32 hi hz0 hz1 hz2 rfl (by decide) (.slice av A.length cv) A.length (strCellsL A) rfl (hown.alloc _) ⟨wr.heap.size, 0, none⟩ 1 1 [sv x] rfl rfl ?c1 ?c2 ?c3 ?c4 ?c5 ?_))
            case c1 => exact cell_one_new _ _ _
            case c2 => exact one_cell _ rfl
            case c3 => unfold maxLen; omega
            case c4 => omega
            case c5 => have := hbel.size; simp; omega
            intro v1 w1 hown1 hg1 hn1
            have hbel1 : Below w.heap.size w w1 := (hbel.alloc hbel.size _).grown hg1 (by have := hbel.size; simp; omega) (fun j hj => (hown.lt j hj).1)
            clear hn1 hg1 hcx hcw
            go_wp2
            go_roundw
            case rel => exact ⟨j + 1, by omega, by go_num, by rw [HT.out]; simpa [strCellsL] using hown1, hbel1⟩
            case measure => simp [intOf]; omega
        · obtain rfl : j = l.length := by omega
          go_wp2
          go_roundw
          case rel => exact ⟨k + 1, by omega, by go_num, by rw [HD.out]; simpa using hown, hbel⟩
          case measure => simp [intOf]; omega
    · obtain rfl : k = n := by omega
      go_wp2
      go_ret
      exact ⟨_, rfl, hown, hbel⟩
end Go.Proofs.Qxb6605708a.Uni
