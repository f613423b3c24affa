/-
  The plain mathematics of 'FnMostMatchesDenseCount': sums over the integers, tallies, wrapping. No Go in sight.
-/
import Derived.RowKit
namespace Go.Proofs.Qxb6605708a.Most
open Go.RowKit

/-! ### wrapping -/
theorem wrap_ex (a : Int) : ∃ k : Int, wrap64 a = a + 18446744073709551616 * k := ⟨-((a + 9223372036854775808) / 18446744073709551616), by unfold wrap64; omega⟩

theorem wrap_shift (a k : Int) : wrap64 (a + 18446744073709551616 * k) = wrap64 a := by unfold wrap64; omega

theorem wrap_add_l (a b : Int) : wrap64 (wrap64 a + b) = wrap64 (a + b) := by
  obtain ⟨k, hk⟩ := wrap_ex a
  rw [hk, show a + 18446744073709551616 * k + b = (a + b) + 18446744073709551616 * k by omega, wrap_shift]

theorem wrap_add_r (a b : Int) : wrap64 (a + wrap64 b) = wrap64 (a + b) := by
  rw [Int.add_comm, wrap_add_l, Int.add_comm]

theorem wrap_mul_r (a b : Int) : wrap64 (a * wrap64 b) = wrap64 (a * b) := by
  obtain ⟨k, hk⟩ := wrap_ex b
  rw [hk, Int.mul_add, Int.mul_left_comm, wrap_shift]

/-! ### sums and tallies -/
def sumTo : Nat → (Nat → Int) → Int
  | 0, _ => 0
  | n + 1, f => sumTo n f + f n

def cnt : Nat → (Nat → Nat) → Nat → Nat
  | 0, _, _ => 0
  | n + 1, g, r => cnt n g r + if g n = r then 1 else 0

theorem sumTo_succ (n : Nat) (f : Nat → Int) : sumTo (n + 1) f = sumTo n f + f n := rfl
theorem cnt_succ (n : Nat) (g : Nat → Nat) (r : Nat) : cnt (n + 1) g r = cnt n g r + if g n = r then 1 else 0 := rfl

theorem cnt_le (n : Nat) (g : Nat → Nat) (r : Nat) : cnt n g r ≤ n := by
  induction n with
  | zero => exact Nat.le_refl _
  | succ n ih => unfold cnt; split <;> omega

theorem sumTo_congr (n : Nat) {f g : Nat → Int} (h : ∀ i, i < n → f i = g i) : sumTo n f = sumTo n g := by
  induction n with
  | zero => rfl
  | succ n ih => unfold sumTo; rw [ih (fun i hi => h i (by omega)), h n (by omega)]

theorem sumTo_add (n : Nat) (f g : Nat → Int) : sumTo n (fun i => f i + g i) = sumTo n f + sumTo n g := by
  induction n with
  | zero => rfl
  | succ n ih => simp only [sumTo_succ, ih]; omega

theorem sumTo_zero (n : Nat) : sumTo n (fun _ => 0) = 0 := by
  induction n with
  | zero => rfl
  | succ n ih => unfold sumTo; rw [ih]; rfl

/-- The sum that has one addend alone. -/
theorem sumTo_one (n j : Nat) (f : Nat → Int) : sumTo n (fun r => if j = r then f r else 0) = if j < n then f j else 0 := by
  induction n with
  | zero => rfl
  | succ n ih =>
    simp only [sumTo_succ, ih]
    by_cases h1 : j < n
    · rw [if_pos h1, if_neg (by omega), if_pos (by omega)]; omega
    · by_cases h2 : j = n
      · subst h2; rw [if_neg h1, if_pos rfl, if_pos (by omega)]; omega
      · rw [if_neg h1, if_neg h2, if_neg (by omega)]; omega

/-- A sum over what is listed is the dot product of the tallies with what is summed. -/
theorem sum_tally (R : Nat) (F : Nat → Int) (g : Nat → Nat) (n : Nat) (hg : ∀ i, i < n → g i < R) : sumTo n (fun i => F (g i)) = sumTo R (fun r => (cnt n g r : Int) * F r) := by
  induction n with
  | zero =>
    rw [sumTo_congr R (g := fun _ => 0) (fun i _ => by simp [cnt]), sumTo_zero]
    rfl
  | succ n ih =>
    show sumTo n (fun i => F (g i)) + F (g n) = _
    rw [ih (fun i hi => hg i (by omega))]
    have e : sumTo R (fun r => (cnt (n + 1) g r : Int) * F r) = sumTo R (fun r => (cnt n g r : Int) * F r + if g n = r then F r else 0) := by
      refine sumTo_congr R fun r _ => ?_
      rw [cnt_succ]
      by_cases h : g n = r
      · rw [if_pos h, if_pos h]; simp [Int.add_mul]
      · rw [if_neg h, if_neg h]; simp
    rw [e, sumTo_add, sumTo_one, if_pos (hg n (by omega))]

/-- THE LAW: what 'most' sums is what the dense model sums. -/
theorem law (R N nw na : Nat) (H A M : Nat → Int) (o w e : Nat → Nat) (hw : ∀ i, i < nw → w i < R) (he : ∀ i, i < na → e i < N) (ho : ∀ i, i < N → o i < R) :
    sumTo nw (fun i => H (w i) + A (w i)) + sumTo na (fun i => M (e i) + H (o (e i))) =
    sumTo R (fun r => (cnt nw w r : Int) * (H r + A r) + (cnt na (fun i => o (e i)) r : Int) * H r) + sumTo N (fun x => (cnt na e x : Int) * M x) := by
  have h1 := sum_tally R (fun r => H r + A r) w nw hw
  have h2 := sum_tally N M e na he
  have h3 := sum_tally R H (fun i => o (e i)) na (fun i hi => ho _ (he i hi))
  rw [sumTo_add na, sumTo_add R, ← h1, ← h3, ← h2]
  omega

end Go.Proofs.Qxb6605708a.Most
