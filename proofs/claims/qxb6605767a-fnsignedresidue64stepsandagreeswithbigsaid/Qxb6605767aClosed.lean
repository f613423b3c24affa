/-
  The law 'FnSignedResidue64ClosedForm' (function 3), walked.
-/
import Derived.Test.Qxb6605767aResidue
namespace Go.Proofs.Qxb6605767a.Res
open Go.RowKit
set_option linter.unusedVariables false

theorem tmod_neg (x p : Int) (h : x < 0) : x.tmod p = -((-x) % p) := by
  rw [← Int.tmod_eq_emod_of_nonneg (show 0 ≤ -x by omega), Int.neg_tmod, Int.neg_neg]

theorem c1 {x p : Int} (hp : 1 ≤ p) (hp' : p ≤ 9223372036854775807) (h : x.tmod p < 0) : (x % p == IntKind.u64.wrap (wrap64 (x.tmod p + p))) = true := by
  have hx : x < 0 := by
    rcases Int.lt_or_le x 0 with h' | h'
    · exact h'
    · rw [Int.tmod_eq_emod_of_nonneg h'] at h
      have := Int.emod_nonneg x (show p ≠ 0 by omega)
      omega
  rw [tmod_neg x p hx] at *
  have h1 := Int.emod_nonneg (-x) (show p ≠ 0 by omega)
  have h2 := Int.emod_lt_of_pos (-x) (show 0 < p by omega)
  rw [neg_rem x p hp (by omega), IntKind.wrap_u64]
  unfold wrap64
  rw [beq_iff_eq]
  omega

theorem c2 {x p : Int} (hp : 1 ≤ p) (hp' : p ≤ 9223372036854775807) (h : 0 ≤ x.tmod p) : (x % p == IntKind.u64.wrap (x.tmod p)) = true := by
  rw [beq_iff_eq, IntKind.wrap_u64]
  have h1 := Int.emod_nonneg x (show p ≠ 0 by omega)
  have h2 := Int.emod_lt_of_pos x (show 0 < p by omega)
  rcases Int.lt_or_le x 0 with h' | h'
  · rw [tmod_neg x p h'] at *
    have h3 := Int.emod_nonneg (-x) (show p ≠ 0 by omega)
    have h4 : (-x) % p = 0 := by omega
    rw [neg_rem0 x p h4, h4]
    rfl
  · rw [Int.tmod_eq_emod_of_nonneg h']
    omega

theorem c3 {x p : Int} (h0 : 0 ≤ x) (h : x ≤ 9223372036854775807) (hp : 9223372036854775808 ≤ p) : (x % p == x) = true := by
  rw [beq_iff_eq]
  exact Int.emod_eq_of_lt h0 (by omega)

theorem c4 {x p : Int} (h0 : x < 0) (h : -9223372036854775808 ≤ x) (hp : 9223372036854775808 ≤ p) (hp' : p ≤ 18446744073709551615) : (x % p == IntKind.u64.wrap (p + IntKind.u64.wrap x)) = true := by
  rw [beq_iff_eq, IntKind.wrap_u64, IntKind.wrap_u64, ← Int.add_emod_right x p, Int.emod_eq_of_lt (show 0 ≤ x + p by omega) (show x + p < p by omega)]
  omega

theorem ret_bool {a b : Bool} (h : a = b) : Ending.returned (.bool a) = .returned (.bool b) := by rw [h]

theorem closed_zero (x : Int) (w : World) : Calls Try.prog 3 #[.int .i64 x, .int .u64 0] w fun e w' => e = .returned (.bool true) ∧ w' = w := by
  go_enter Try.func3, Try.ntmps3
  go_wp2
  go_ret
  exact ⟨rfl, rfl⟩

set_option maxHeartbeats 400000 in
theorem closed_small (x p : Int) (w : World) (hx : -9223372036854775808 ≤ x) (hx' : x ≤ 9223372036854775807) (hp : 1 ≤ p) (hp' : p ≤ 9223372036854775807) :
    Calls Try.prog 3 #[.int .i64 x, .int .u64 p] w fun e w' => e = .returned (.bool true) ∧ w' = w := by
  go_enter Try.func3, Try.ntmps3
  go_wp2_with (go_at_call 7; refine (residue_any x p _ hx hx' hp (by omega)).mono ?_; rintro e w' ⟨rfl, rfl⟩)
  · go_ret
    exact ⟨ret_bool (c1 hp hp' (by assumption)), rfl⟩
  · go_ret
    exact ⟨ret_bool (c2 hp hp' (by assumption)), rfl⟩

set_option maxHeartbeats 400000 in
theorem closed_big (x p : Int) (w : World) (hx : -9223372036854775808 ≤ x) (hx' : x ≤ 9223372036854775807) (hp : 9223372036854775808 ≤ p) (hp' : p ≤ 18446744073709551615) :
    Calls Try.prog 3 #[.int .i64 x, .int .u64 p] w fun e w' => e = .returned (.bool true) ∧ w' = w := by
  go_enter Try.func3, Try.ntmps3
  go_wp2_with (go_at_call 7; refine (residue_any x p _ hx hx' (by omega) (by omega)).mono ?_; rintro e w' ⟨rfl, rfl⟩)
  · go_ret
    exact ⟨ret_bool (c3 (by assumption) hx' hp), rfl⟩
  · go_ret
    exact ⟨ret_bool (c4 (by assumption) hx hp hp'), rfl⟩
end Go.Proofs.Qxb6605767a.Res
