/-
  actionListsWellFormed (22): it answers some bool; where it is true every name is well formed.
-/
import Derived.Test.Qxb6605708aUniStrs
namespace Go.Proofs.Qxb6605708a.Uni
open Go.RowKit
set_option linter.unusedVariables false

def WellPost (n : Nat) (N : Nat → List Str) (w : World) (e : Ending) (w' : World) : Prop := ∃ r : Bool, e = .returned (.bool r) ∧ w' = w ∧ (r = true → ∀ i, i < n → ∀ x ∈ N i, OkName x)
theorem WellPost.no {n : Nat} {N : Nat → List Str} (w : World) : WellPost n N w (.returned (.bool false)) w := ⟨false, rfl, rfl, by simp⟩

theorem byte_at (x : Str) (q : Nat) (h : q < List.length x) (h' : q < (⟨x.toArray⟩ : ByteArray).size) : ((⟨x.toArray⟩ : ByteArray)[q]'h') = x[q] := rfl

theorem comma_succ {x : Str} {q : Nat} (hq : q < List.length x) (h' : q < (⟨x.toArray⟩ : ByteArray).size) (h : ∀ c ∈ x.take q, c ≠ 44) (hne : ((((⟨x.toArray⟩ : ByteArray)[q]'h').toNat : Int) == 44) = false) : ∀ c ∈ x.take (q + 1), c ≠ 44 := by
  rw [byte_at x q hq] at hne
  rw [List.take_succ_eq_append_getElem hq]
  intro c hc
  rcases List.mem_append.1 hc with hc | hc
  · exact h c hc
  · simp at hc
    subst hc
    intro e
    rw [e] at hne
    simp at hne

set_option maxHeartbeats 2000000 in
theorem well_any (a : Option Addr) (n c : Nat) (N : Nat → List Str) (w : World) (hN : Names w a n N) (hn : n ≤ 1048576) (hl : ∀ i, i < n → (N i).length ≤ 1048576) (hb : ∀ i, i < n → ∀ x ∈ N i, x.length ≤ 1048576) :
    Calls Try.prog 22 #[.slice a n c] w (WellPost n N w) := by
  go_enter Try.func22, Try.ntmps22
  go_wp2
  go_loop [3] (fun i => ∃ k : Nat, k ≤ n ∧ i = .int .i64 k ∧ ∀ i, i < k → ∀ x ∈ N i, OkName x) (fun i => n - (intOf i).toNat)
  case atStart => exact ⟨0, Nat.zero_le _, rfl, fun i hi => absurd hi (Nat.not_lt_zero _)⟩
  case round =>
    obtain ⟨k, hk, rfl, hin⟩ := hrel
    have HI : Hid (∀ i, i < k → ∀ x ∈ N i, OkName x) := hin
    clear hin
    by_cases hlt : k < n
    · obtain ⟨b, off, ai, ci, rfl, hc, hcap, hs⟩ := hN k hlt
      have hlk := hl k hlt
      have HS : Hid (∀ x ∈ N k, x.length ≤ 1048576) := hb k hlt
      obtain ⟨l, hll⟩ : ∃ l, l = N k := ⟨_, rfl⟩
      rw [← hll] at hc hcap hs hlk HS
      have HL : Hid (l = N k) := hll
      clear hll
      go_wp2
      go_loop [4] (fun i => ∃ j : Nat, j ≤ l.length ∧ i = .int .i64 j ∧ ∀ x ∈ l.take j, OkName x) (fun i => l.length - (intOf i).toNat)
      case atStart => exact ⟨0, Nat.zero_le _, rfl, by simp⟩
      case round =>
        obtain ⟨j, hj, rfl, hin⟩ := hrel
        have HJ : Hid (∀ x ∈ l.take j, OkName x) := hin
        clear hin
        by_cases hlj : j < l.length
        · obtain ⟨b', off', rfl, hc'⟩ := hs j hlj
          rw [getD_mem hlj] at hc'
          have hxl : (l[j]).length ≤ 1048576 := HS.out _ (List.getElem_mem _)
          have HT : Hid (l.take (j + 1) = l.take j ++ [l[j]]) := List.take_succ_eq_append_getElem hlj
          generalize l[j] = x at *
          by_cases hx : x = [] ∨ x = [42]
          · rcases hx with rfl | rfl
            · go_wp2
              go_ret
              exact WellPost.no w
            · go_wp2
              go_ret
              exact WellPost.no w
          · have HE : Hid (x ≠ [] ∧ x ≠ [42]) := by show x ≠ [] ∧ x ≠ [42]; simpa using hx
            have h1 : x.isEmpty = false := by cases x <;> simp_all
            have h2 : (x == [42]) = false := by simp at hx ⊢; exact hx.2
            clear hx
            go_wp2
            go_loop [6] (fun i => ∃ q : Nat, q ≤ x.length ∧ i = .int .i64 q ∧ ∀ c ∈ x.take q, c ≠ 44) (fun i => x.length - (intOf i).toNat)
            case atStart => exact ⟨0, Nat.zero_le _, rfl, by simp⟩
            case round =>
              obtain ⟨q, hq, rfl, hin⟩ := hrel
              have HQ : Hid (∀ c ∈ x.take q, c ≠ 44) := hin
              clear hin
              by_cases hlq : q < x.length
              · go_wp2
                · go_ret
                  exact WellPost.no w
                · go_round
                  case rel => exact ⟨q + 1, by omega, by go_num, comma_succ hlq hlq HQ.out (by assumption)⟩
                  case measure => simp [intOf]; omega
              · obtain rfl : q = x.length := by omega
                go_wp2
                go_round
                case rel =>
                  refine ⟨j + 1, by omega, by go_num, ?_⟩
                  rw [HT.out]
                  intro y hy
                  rcases List.mem_append.1 hy with hy | hy
                  · exact HJ.out y hy
                  · simp at hy
                    subst hy
                    exact ⟨HE.out.1, HE.out.2, by simpa using HQ.out⟩
                case measure => simp [intOf]; omega
        · obtain rfl : j = l.length := by omega
          go_wp2
          go_round
          case rel =>
            refine ⟨k + 1, by omega, by go_num, fun i hi => ?_⟩
            by_cases e : i = k
            · subst e
              rw [← HL.out]
              simpa using HJ.out
            · exact HI.out i (by omega)
          case measure => simp [intOf]; omega
    · obtain rfl : k = n := by omega
      go_wp2
      go_ret
      exact ⟨true, rfl, rfl, fun _ => HI.out⟩
end Go.Proofs.Qxb6605708a.Uni
