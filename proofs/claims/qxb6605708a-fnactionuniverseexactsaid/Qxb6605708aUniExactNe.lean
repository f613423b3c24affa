/-
  The law FnActionUniverseExact (5), where the two lengths part.
-/
import Derived.Test.Qxb6605708aUniExact
namespace Go.Proofs.Qxb6605708a.Uni
open Go.RowKit
set_option linter.unusedVariables false

set_option maxRecDepth 100000 in
set_option maxHeartbeats 4000000 in
theorem exact_ne (a0 a1 : Option Addr) (m n c0 c1 : Nat) (N : Nat → List Str) (w : World) (hN : Names w a1 n N) (hm : m ≤ 9223372036854775807) (hn : n ≤ 9223372036854775807) (hl : ∀ i, i < n → (N i).length ≤ 9223372036854775807) (hmn : n ≠ m) :
    Calls Try.prog 5 #[.slice a0 m c0, .slice a1 n c1] w (TrueBelow w) := by
  have hne : ((n : Int) != (m : Int)) = true := by simp; omega
  go_enter Try.func5, Try.ntmps5
  go_wp2_with fail
  refine (bytes10 a0 a1 m c0 n c1 N w hN hm hn hl).mono ?_
  rintro e w' ⟨r, rfl, hw⟩; subst w'
  cases r with
  | false =>
    go_wp2_with fail
    go_ret
    exact ⟨rfl, Below.refl _ _⟩
  | true =>
    go_wp2_with fail
    refine (small_any a0 a1 m c0 n c1 N w hN hm hn hl).mono ?_
    rintro e w' ⟨r, rfl, hw, hr⟩; subst w'
    clear hr
    cases r with
    | false =>
      go_wp2_with fail
      go_ret
      exact ⟨rfl, Below.refl _ _⟩
    | true =>
      go_wp2_with fail
      go_ret
      exact ⟨rfl, Below.refl _ _⟩

end Go.Proofs.Qxb6605708a.Uni
