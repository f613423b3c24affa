/-
  The walk of 'mostInRange' (function 7): it answers some bool; where that is true the four ranges hold.
-/
import Derived.Test.Qxb6605708aRows
import Derived.Test.Qxb6605708aMostPlain
import Derived.WalkKit
import Derived.WalkSpells
namespace Go.Proofs.Qxb6605708a.Most
open Go.RowKit
set_option linter.unusedVariables false

/-- A slice of integers that came in: n elements, the i-th reads f i. -/
def Row (k : IntKind) (w : World) (a : Option Addr) (n : Nat) (f : Nat → Int) : Prop :=
  ∀ i, i < n → ∃ b off, a = some ⟨b, off, none⟩ ∧ w.cell? ⟨b, off + i, none⟩ = some (.int k (f i))

theorem Row.below {k : IntKind} {w w' : World} {a : Option Addr} {n : Nat} {f : Nat → Int} (h : Row k w a n f) (hb : Below w.heap.size w w') : Row k w' a n f := by
  intro i hi
  obtain ⟨b, off, ha, hc⟩ := h i hi
  exact ⟨b, off, ha, (hb.cell (World.block_lt_of_cell? w _ hc)).trans hc⟩

/-- the numbers of an int32 -/
def In32 (n : Nat) (f : Nat → Int) : Prop := ∀ i, i < n → -2147483648 ≤ f i ∧ f i ≤ 2147483647

/-- What 'mostInRange' has found where it answers true. -/
structure InRange (n0 n1 n2 n4 n5 : Nat) (f0 f4 f5 : Nat → Int) : Prop where
  same : n2 = n1
  of : ∀ i, i < n0 → 0 ≤ f0 i ∧ f0 i < n1
  whole : ∀ i, i < n4 → 0 ≤ f4 i ∧ f4 i < n1
  added : ∀ i, i < n5 → 0 ≤ f5 i ∧ f5 i < n0

def RangePost (n0 n1 n2 n4 n5 : Nat) (f0 f4 f5 : Nat → Int) (w : World) (e : Ending) (w' : World) : Prop :=
  ∃ r : Bool, e = .returned (.bool r) ∧ w' = w ∧ (r = true → InRange n0 n1 n2 n4 n5 f0 f4 f5)

theorem RangePost.no {n0 n1 n2 n4 n5 : Nat} {f0 f4 f5 : Nat → Int} (w : World) : RangePost n0 n1 n2 n4 n5 f0 f4 f5 w (.returned (.bool false)) w := ⟨false, rfl, rfl, by simp⟩

/-- one more element in range -/
theorem in_succ {f : Nat → Int} {m k : Nat} {x : Int} (h : ∀ i, i < k → 0 ≤ f i ∧ f i < m) (hx : x = f k) (hr : 0 ≤ x ∧ x < m) : ∀ i, i < k + 1 → 0 ≤ f i ∧ f i < m := by
  intro i hi
  by_cases e : i = k
  · subst e; rw [← hx]; exact hr
  · exact h i (by omega)

set_option maxHeartbeats 1000000 in
theorem inRange_any (a0 a1 a2 a4 a5 : Option Addr) (n0 c0 n1 c1 n2 c2 n4 c4 n5 c5 : Nat) (f0 f4 f5 : Nat → Int) (w : World)
    (h0 : Row .i32 w a0 n0 f0) (h4 : Row .i32 w a4 n4 f4) (h5 : Row .i32 w a5 n5 f5) (b0 : In32 n0 f0) (b4 : In32 n4 f4) (b5 : In32 n5 f5)
    (m0 : n0 ≤ 32768) (m1 : n1 ≤ 32768) (m2 : n2 ≤ 32768) (m4 : n4 ≤ 16384) (m5 : n5 ≤ 16384) :
    Calls Try.prog 7 #[.slice a0 n0 c0, .slice a1 n1 c1, .slice a2 n2 c2, .slice a4 n4 c4, .slice a5 n5 c5] w (RangePost n0 n1 n2 n4 n5 f0 f4 f5 w) := by
  by_cases hn : n2 = n1
  · subst hn
    go_enter Try.func7, Try.ntmps7
    go_wp2
    go_loop [12] (fun e => ∃ k : Nat, k ≤ n0 ∧ e = .int .i64 k ∧ ∀ i, i < k → 0 ≤ f0 i ∧ f0 i < n2) (fun e => n0 - (intOf e).toNat)
    case atStart => exact ⟨0, Nat.zero_le _, rfl, fun i hi => by omega⟩
    case round =>
      obtain ⟨k, hk, rfl, hin⟩ := hrel
      have HI : Hid (∀ i, i < k → 0 ≤ f0 i ∧ f0 i < n2) := hin
      clear hin
      by_cases hlt : k < n0
      · obtain ⟨b, off, rfl, hc⟩ := h0 k hlt
        have hb := b0 k hlt
        obtain ⟨x, hx⟩ : ∃ x, x = f0 k := ⟨_, rfl⟩
        rw [← hx] at hc hb
        have HX : Hid (x = f0 k) := hx
        clear hx
        by_cases hx0 : 0 ≤ x ∧ x < n2
        · go_wp2
          go_round
          case rel => exact ⟨k + 1, by omega, by go_num, in_succ HI.out HX.out hx0⟩
          case measure => simp [intOf]; omega
        · go_wp2
          all_goals
            go_ret
            exact RangePost.no w
      · obtain rfl : k = n0 := by omega
        go_wp2
        go_loop [13] (fun e => ∃ k : Nat, k ≤ n4 ∧ e = .int .i64 k ∧ ∀ i, i < k → 0 ≤ f4 i ∧ f4 i < n2) (fun e => n4 - (intOf e).toNat)
        case atStart => exact ⟨0, Nat.zero_le _, rfl, fun i hi => by omega⟩
        case round =>
          obtain ⟨j, hj, rfl, hin⟩ := hrel
          have HJ : Hid (∀ i, i < j → 0 ≤ f4 i ∧ f4 i < n2) := hin
          clear hin
          by_cases hlt : j < n4
          · obtain ⟨b, off, rfl, hc⟩ := h4 j hlt
            have hb := b4 j hlt
            obtain ⟨x, hx⟩ : ∃ x, x = f4 j := ⟨_, rfl⟩
            rw [← hx] at hc hb
            have HX : Hid (x = f4 j) := hx
            clear hx
            by_cases hx0 : 0 ≤ x ∧ x < n2
            · go_wp2
              go_round
              case rel => exact ⟨j + 1, by omega, by go_num, in_succ HJ.out HX.out hx0⟩
              case measure => simp [intOf]; omega
            · go_wp2
              all_goals
                go_ret
                exact RangePost.no w
          · obtain rfl : j = n4 := by omega
            go_wp2
            go_loop [14] (fun e => ∃ i : Nat, i ≤ n5 ∧ e = .int .i64 i ∧ ∀ l, l < i → 0 ≤ f5 l ∧ f5 l < k) (fun e => n5 - (intOf e).toNat)
            case atStart => exact ⟨0, Nat.zero_le _, rfl, fun i hi => by omega⟩
            case round =>
              obtain ⟨i, hi, rfl, hin⟩ := hrel
              have HK : Hid (∀ l, l < i → 0 ≤ f5 l ∧ f5 l < k) := hin
              clear hin
              by_cases hlt : i < n5
              · obtain ⟨b, off, rfl, hc⟩ := h5 i hlt
                have hb := b5 i hlt
                obtain ⟨x, hx⟩ : ∃ x, x = f5 i := ⟨_, rfl⟩
                rw [← hx] at hc hb
                have HX : Hid (x = f5 i) := hx
                clear hx
                by_cases hx0 : 0 ≤ x ∧ x < k
                · go_wp2
                  go_round
                  case rel => exact ⟨i + 1, by omega, by go_num, in_succ HK.out HX.out hx0⟩
                  case measure => simp [intOf]; omega
                · go_wp2
                  all_goals
                    go_ret
                    exact RangePost.no w
              · obtain rfl : i = n5 := by omega
                go_wp2
                go_ret
                exact ⟨true, rfl, rfl, fun _ => ⟨rfl, HI.out, HJ.out, HK.out⟩⟩
  · have hn' : ((n2 : Int) != (n1 : Int)) = true := by simp; omega
    go_enter Try.func7, Try.ntmps7
    go_wp2
    go_ret
    exact RangePost.no w

end Go.Proofs.Qxb6605708a.Most
