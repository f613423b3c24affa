/-
  Small walks over slices of strings: holdsString (26), firstWithKey (19), countFirstKeys (16), countBelow (20), equalInt32s (23), actionListsWellFormed (22).
-/
import Derived.Test.Qxb6605708aUniBytes
import Derived.Sort.Walk0
namespace Go.Proofs.Qxb6605708a.Uni
open Go.RowKit
set_option linter.unusedVariables false

theorem getD_mem {l : List Str} {i : Nat} (h : i < l.length) : l.getD i [] = l[i] := by simp [List.getD_eq_getElem?_getD, h]

/-! ### holdsString -/
theorem has_take_succ {l : List Str} {k : Nat} {x : Str} (hk : k < l.length) (h : has (l.take k) x = false) (hne : (l[k] == x) = false) : has (l.take (k + 1)) x = false := by
  unfold has at *
  rw [decide_eq_false_iff_not] at *
  rw [List.take_succ_eq_append_getElem hk, List.mem_append]
  rintro (h' | h')
  · exact h h'
  · simp at h'
    rw [h'] at hne
    simp at hne

theorem has_hit {l : List Str} {k : Nat} {x : Str} (hk : k < l.length) (h : (l[k] == x) = true) : has l x = true := by
  unfold has
  rw [decide_eq_true_eq]
  rw [beq_iff_eq] at h
  rw [← h]
  exact List.getElem_mem _

theorem holds_any (a : Option Addr) (c : Nat) (l : List Str) (x : Str) (w : World) (hs : Strs w a l) (hl : l.length ≤ 1048576) :
    Calls Try.prog 26 #[.slice a l.length c, sv x] w fun e w' => e = .returned (.bool (has l x)) ∧ w' = w := by
  go_enter Try.func26, Try.ntmps26
  go_wp2
  go_loop [5] (fun i => ∃ k : Nat, k ≤ l.length ∧ i = .int .i64 k ∧ has (l.take k) x = false) (fun i => l.length - (intOf i).toNat)
  case atStart => exact ⟨0, Nat.zero_le _, rfl, by simp [has]⟩
  case round =>
    obtain ⟨k, hk, rfl, hin⟩ := hrel
    have HI : Hid (has (l.take k) x = false) := hin
    clear hin
    by_cases hlt : k < l.length
    · obtain ⟨b, off, rfl, hc⟩ := hs k hlt
      rw [getD_mem hlt] at hc
      go_wp2
      · have h : (l[k] == x) = true := by assumption
        go_ret
        exact ⟨ret_bool (has_hit hlt h).symm, rfl⟩
      · have h : (l[k] == x) = false := by assumption
        go_round
        case rel => exact ⟨k + 1, by omega, by go_num, has_take_succ hlt HI.out h⟩
        case measure => simp [intOf]; omega
    · go_wp2
      go_ret
      exact ⟨ret_bool (by have h := HI.out; rw [List.take_of_length_le (by omega)] at h; exact h.symm), rfl⟩

/-! ### countBelow -/
theorem below_take {l : List Str} {k : Nat} (x : Str) (hk : k < l.length) : below (l.take (k + 1)) x = below (l.take k) x + if l[k] < x then 1 else 0 := by
  unfold below
  rw [List.take_succ_eq_append_getElem hk, List.countP_append]
  by_cases h : l[k] < x
  · rw [if_pos h]; simp [h]
  · rw [if_neg h]; simp [h]

theorem below_any (a : Option Addr) (c : Nat) (l : List Str) (x : Str) (w : World) (hs : Strs w a l) (hl : l.length ≤ 1048576) :
    Calls Try.prog 20 #[.slice a l.length c, sv x] w fun e w' => e = .returned (.int .i64 (below l x : Nat)) ∧ w' = w := by
  go_enter Try.func20, Try.ntmps20
  go_wp2
  go_loop [5, 6] (fun m i => ∃ k : Nat, k ≤ l.length ∧ i = .int .i64 k ∧ m = .int .i64 (below (l.take k) x : Nat)) (fun _ i => l.length - (intOf i).toNat)
  case atStart => exact ⟨0, Nat.zero_le _, rfl, by simp [below]⟩
  case round =>
    obtain ⟨k, hk, rfl, rfl⟩ := hrel
    by_cases hlt : k < l.length
    · obtain ⟨b, off, rfl, hc⟩ := hs k hlt
      rw [getD_mem hlt] at hc
      have HB : Hid (below (l.take (k + 1)) x = below (l.take k) x + if l[k] < x then 1 else 0) := below_take x hlt
      have hle : below (l.take k) x ≤ l.length := Nat.le_trans (below_le _ _) (by simp; omega)
      generalize below (l.take k) x = B at *
      by_cases hx : l[k] < x
      · have HX : Hid (l[k] < x) := hx
        have hd : Op.bytesLess l[k] x = true := by rw [bytesLess_eq, decide_eq_true_eq]; exact hx
        clear hx
        go_wp2
        go_round
        case rel => exact ⟨k + 1, by omega, by go_num, int_eq (by rw [HB.out, if_pos HX.out]; omega)⟩
        case measure => simp [intOf]; omega
      · have HX : Hid (¬ l[k] < x) := hx
        have hd : Op.bytesLess l[k] x = false := by rw [bytesLess_eq, decide_eq_false_iff_not]; exact hx
        clear hx
        go_wp2
        go_round
        case rel => exact ⟨k + 1, by omega, by go_num, int_eq (by rw [HB.out, if_neg HX.out]; omega)⟩
        case measure => simp [intOf]; omega
    · go_wp2
      go_ret
      exact ⟨ret_int (by rw [List.take_of_length_le (by omega)]), rfl⟩

/-! ### firstWithKey: the keys by a function -/
theorem first_any (a : Option Addr) (n c i : Nat) (K : Nat → Str) (w : World) (hs : ∀ j, j < n → ∃ b off, a = some ⟨b, off, none⟩ ∧ w.cell? ⟨b, off + j, none⟩ = some (sv (K j))) (hi : i < n) (hn : n ≤ 1048576) :
    Calls Try.prog 19 #[.slice a n c, .int .i64 i] w fun e w' => e = .returned (.int .i64 (fw K i : Nat)) ∧ ∃ q, w' = w.drewN q := by
  obtain ⟨b, off, rfl, hci⟩ := hs i hi
  go_enter Try.func19, Try.ntmps19
  go_wp2
  go_loopw [5] (fun t wr => ∃ k : Nat, k ≤ i ∧ t = .int .i64 k ∧ fi k K (K i) = none ∧ ∃ q, wr = w.drewN q) (fun t _ => i - (intOf t).toNat)
  case atStart => exact ⟨0, Nat.zero_le _, rfl, rfl, 0, rfl⟩
  case round =>
    obtain ⟨k, hk, rfl, hin, q, rfl⟩ := hrel
    have HI : Hid (fi k K (K i) = none) := hin
    clear hin
    by_cases hlt : k < i
    · obtain ⟨b', off', he, hc⟩ := hs k (by omega)
      simp only [Option.some.injEq, Addr.mk.injEq, and_true] at he
      obtain ⟨rfl, rfl⟩ := he
      by_cases hx : K k = K i
      · have HX : Hid (fw K i = k) := by
          show fw K i = k
          have h1 : fi i K (K i) = some k := fi_eq hlt hx (fi_none.1 HI.out)
          unfold fw
          rw [h1]
        have hb : (K k == K i) = true := by simp [hx]
        clear hx
        go_wp2_with fail
        go_quiet (fail)
        go_wp2
        go_ret
        exact ⟨ret_int (by rw [HX.out]), _, by rw [World.drewN_drewN]⟩
      · have HX : Hid (fi (k + 1) K (K i) = none) := by
          show fi (k + 1) K (K i) = none
          rw [fi_succ_none HI.out, if_neg hx]
        have hb : (K k == K i) = false := by simp [hx]
        clear hx
        go_wp2_with fail
        go_quiet (fail)
        go_wp2
        go_roundw
        case rel => exact ⟨k + 1, by omega, by go_num, HX.out, _, rfl⟩
        case measure => simp [intOf]; omega
    · obtain rfl : k = i := by omega
      go_wp2
      go_ret
      exact ⟨ret_int (by rw [fw_first.2 HI.out]), _, rfl⟩

/-! ### countFirstKeys -/
theorem countFirst_any (a : Option Addr) (n c : Nat) (K : Nat → Str) (w : World) (hs : ∀ j, j < n → ∃ b off, a = some ⟨b, off, none⟩ ∧ w.cell? ⟨b, off + j, none⟩ = some (sv (K j))) (hn : n ≤ 1048576) :
    Calls Try.prog 16 #[.slice a n c] w fun e w' => e = .returned (.int .i64 (cf K n : Nat)) ∧ ∃ q, w' = w.drewN q := by
  go_enter Try.func16, Try.ntmps16
  go_wp2
  go_loopw [3, 4] (fun t i wr => ∃ k : Nat, k ≤ n ∧ i = .int .i64 k ∧ t = .int .i64 (cf K k : Nat) ∧ ∃ q, wr = w.drewN q) (fun _ i _ => n - (intOf i).toNat)
  case atStart => exact ⟨0, Nat.zero_le _, rfl, rfl, 0, rfl⟩
  case round =>
    obtain ⟨k, hk, rfl, rfl, q, rfl⟩ := hrel
    by_cases hlt : k < n
    · have HF := fun w' : World => fun h => first_any a n c k K w' h hlt hn
      have hle := cf_le K k
      by_cases hx : fi k K (K k) = none
      · have HC : Hid (cf K (k + 1) = cf K k + 1) := by show cf K (k + 1) = _; rw [cf_succ, if_pos hx]
        have HW : Hid (fw K k = k) := fw_first.2 hx
        clear hx
        generalize cf K k = C at *
        have HQ : Hid (∀ q, Calls Try.prog 19 #[.slice a n c, .int .i64 k] (w.drewN q) fun e w' => e = .returned (.int .i64 k) ∧ ∃ q, w' = w.drewN q) := fun q => (HF (w.drewN q) (by simpa using hs)).mono fun e w' ⟨he, q', hw⟩ => ⟨by rw [he, HW.out], q + q', by rw [hw, World.drewN_drewN]⟩
        clear HF
        go_wp2_with (go_at_call 19; refine (HQ.out _).mono ?_; rintro e w' ⟨rfl, q', rfl⟩)
        go_roundw
        case rel => exact ⟨k + 1, by omega, by go_num, int_eq (by rw [HC.out]; omega), _, rfl⟩
        case measure => simp [intOf]; omega
      · have HC : Hid (cf K (k + 1) = cf K k) := by show cf K (k + 1) = _; rw [cf_succ, if_neg hx]; rfl
        have HW : fw K k ≠ k := fun e => hx (fw_first.1 e)
        have hne : (((fw K k : Nat) : Int) == (k : Int)) = false := by simp; omega
        clear hx HW
        have HQ : Hid (∀ q, Calls Try.prog 19 #[.slice a n c, .int .i64 k] (w.drewN q) fun e w' => e = .returned (.int .i64 (fw K k : Nat)) ∧ ∃ q, w' = w.drewN q) := fun q => (HF (w.drewN q) (by simpa using hs)).mono fun e w' ⟨he, q', hw⟩ => ⟨he, q + q', by rw [hw, World.drewN_drewN]⟩
        clear HF
        generalize fw K k = F at *
        generalize cf K k = C at *
        go_wp2_with (go_at_call 19; refine (HQ.out _).mono ?_; rintro e w' ⟨rfl, q', rfl⟩)
        go_roundw
        case rel => exact ⟨k + 1, by omega, by go_num, int_eq (by rw [HC.out]), _, rfl⟩
        case measure => simp [intOf]; omega
    · obtain rfl : k = n := by omega
      go_wp2
      go_ret
      exact ⟨rfl, _, rfl⟩

/-! ### equalInt32s, of two rows that hold the same -/
theorem equal_any (a b : Option Addr) (n c d : Nat) (f : Nat → Int) (w : World) (ha : Ints w a n f) (hb : Ints w b n f) (hn : n ≤ 1048576) :
    Calls Try.prog 23 #[.slice a n c, .slice b n d] w fun e w' => e = .returned (.bool true) ∧ ∃ q, w' = w.drewN q := by
  go_enter Try.func23, Try.ntmps23
  go_wp2
  go_loopw [5] (fun i wr => ∃ k : Nat, k ≤ n ∧ i = .int .i64 k ∧ ∃ q, wr = w.drewN q) (fun i _ => n - (intOf i).toNat)
  case atStart => exact ⟨0, Nat.zero_le _, rfl, 0, rfl⟩
  case round =>
    obtain ⟨k, hk, rfl, q, rfl⟩ := hrel
    by_cases hlt : k < n
    · obtain ⟨b1, o1, rfl, h1⟩ := ha k hlt
      obtain ⟨b2, o2, rfl, h2⟩ := hb k hlt
      generalize f k = v at *
      go_wp2_with fail
      go_quiet (fail)
      go_wp2
      go_roundw
      case rel => exact ⟨k + 1, by omega, by go_num, _, by first | rfl | rw [World.drewN_drewN]⟩
      case measure => simp [intOf]; omega
    · go_wp2
      go_ret
      exact ⟨rfl, _, rfl⟩
end Go.Proofs.Qxb6605708a.Uni
