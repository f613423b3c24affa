/-
  'SignedResidue64' (function 7): the remainder that is not negative. And the law 'FnSignedResidue64ClosedForm' (function 3).
-/
import Derived.Test.Qxb6605767aRows
import Derived.WalkKit
import Derived.WalkSpells
namespace Go.Proofs.Qxb6605767a.Res
open Go.RowKit
set_option linter.unusedVariables false

/-! ### plain arithmetic -/
theorem mag (x : Int) (h1 : -9223372036854775808 ≤ x) (h2 : x < 0) : IntKind.u64.wrap (-IntKind.u64.wrap x) = -x := by
  rw [IntKind.wrap_u64, IntKind.wrap_u64]
  omega

theorem neg_rem (x p : Int) (hp : 1 ≤ p) (h : (-x) % p ≠ 0) : x % p = p - (-x) % p := by
  have h1 := Int.emod_nonneg (-x) (show p ≠ 0 by omega)
  have h2 := Int.emod_lt_of_pos (-x) (show 0 < p by omega)
  have h3 := Int.mul_ediv_add_emod (-x) p
  have e : x = (p - (-x) % p) + p * (-((-x) / p) - 1) := by
    rw [Int.mul_sub, Int.mul_neg]
    omega
  rw [e, Int.add_mul_emod_self_left]
  rw [← e]
  exact Int.emod_eq_of_lt (by omega) (by omega)

theorem neg_rem0 (x p : Int) (h : (-x) % p = 0) : x % p = 0 := by
  have := Int.dvd_of_emod_eq_zero h
  exact Int.emod_eq_zero_of_dvd (Int.dvd_neg.1 this)

theorem residue_pos (x p : Int) (w : World) (hx : 0 ≤ x) (hx' : x ≤ 9223372036854775807) (hp : 1 ≤ p) (hp' : p ≤ 18446744073709551615) :
    Calls Try.prog 7 #[.int .i64 x, .int .u64 p] w fun e w' => e = .returned (.int .u64 (x % p)) ∧ w' = w := by
  go_enter Try.func7, Try.ntmps7
  go_wp2
  go_ret
  exact ⟨rfl, rfl⟩

theorem ret_int {k : IntKind} {a b : Int} (h : a = b) : Ending.returned (.int k a) = .returned (.int k b) := by rw [h]

theorem way_ne {x p : Int} (h1 : -9223372036854775808 ≤ x) (h2 : x < 0) (hp : 1 ≤ p) (hp' : p ≤ 18446744073709551615) (h : ((IntKind.u64.wrap (-IntKind.u64.wrap x)).tmod p != 0) = true) :
    IntKind.u64.wrap (p - (IntKind.u64.wrap (-IntKind.u64.wrap x)).tmod p) = x % p := by
  rw [mag x h1 h2, Int.tmod_eq_emod_of_nonneg (by omega)] at *
  have hne : (-x) % p ≠ 0 := by simpa using h
  have h3 := Int.emod_nonneg (-x) (show p ≠ 0 by omega)
  have h4 := Int.emod_lt_of_pos (-x) (show 0 < p by omega)
  rw [neg_rem x p hp hne, IntKind.wrap_u64]
  omega

theorem way_eq {x p : Int} (h1 : -9223372036854775808 ≤ x) (h2 : x < 0) (h : ((IntKind.u64.wrap (-IntKind.u64.wrap x)).tmod p != 0) = false) : (IntKind.u64.wrap (-IntKind.u64.wrap x)).tmod p = x % p := by
  rw [mag x h1 h2, Int.tmod_eq_emod_of_nonneg (by omega)] at *
  have he : (-x) % p = 0 := by simpa using h
  rw [he, neg_rem0 x p he]

set_option maxHeartbeats 400000 in
theorem residue_neg (x p : Int) (w : World) (hx : x < 0) (hx' : -9223372036854775808 ≤ x) (hp : 1 ≤ p) (hp' : p ≤ 18446744073709551615) :
    Calls Try.prog 7 #[.int .i64 x, .int .u64 p] w fun e w' => e = .returned (.int .u64 (x % p)) ∧ w' = w := by
  go_enter Try.func7, Try.ntmps7
  go_wp2
  · have h : ((IntKind.u64.wrap (-IntKind.u64.wrap x)).tmod p != 0) = true := by assumption
    go_ret
    exact ⟨ret_int (way_ne hx' hx hp hp' h), rfl⟩
  · have h : ((IntKind.u64.wrap (-IntKind.u64.wrap x)).tmod p != 0) = false := by assumption
    go_ret
    exact ⟨ret_int (way_eq hx' hx h), rfl⟩

theorem residue_any (x p : Int) (w : World) (hx : -9223372036854775808 ≤ x) (hx' : x ≤ 9223372036854775807) (hp : 1 ≤ p) (hp' : p ≤ 18446744073709551615) :
    Calls Try.prog 7 #[.int .i64 x, .int .u64 p] w fun e w' => e = .returned (.int .u64 (x % p)) ∧ w' = w := by
  by_cases h : x < 0
  · exact residue_neg x p w h hx hp hp'
  · exact residue_pos x p w (by omega) hx' hp hp'
end Go.Proofs.Qxb6605767a.Res
