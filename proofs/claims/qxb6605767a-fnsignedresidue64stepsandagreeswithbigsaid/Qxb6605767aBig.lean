/-
  math/big's one-word numbers: NewInt (18), ZZBigInt (9), Div64 at hi = 0 (21), intResidue (16), Sign (17), SignedResidue (8).
-/
import Derived.Test.Qxb6605767aClosed
import Derived.Deep.QuietTactic
import Derived.BigQuiet
namespace Go.Proofs.Qxb6605767a.Res
open Go.RowKit
set_option linter.unusedVariables false

theorem big_zero (w : World) : Calls Try.prog 9 #[.int .i64 0] w fun e w' => e = .returned (.pointer (some ⟨w.heap.size, 0, none⟩)) ∧ w' = w.alloc (.cells #[.bool false, .slice none 0 0] 41) := by
  go_enter Try.func9, Try.ntmps9
  go_wp2
  go_ret
  exact ⟨rfl, rfl⟩

/-- the world behind ZZBigInt of a number that is not 0 -/
def bigWorld (w : World) (x m : Int) : World := (w.alloc (.cells #[.int .u64 m] 36)).alloc (.cells #[.bool (decide (x < 0)), .slice (some ⟨w.heap.size, 0, none⟩) 1 1] 41)

set_option maxHeartbeats 400000 in
theorem big_pos (x : Int) (w : World) (h : 0 < x) (hx : x ≤ 9223372036854775807) : Calls Try.prog 9 #[.int .i64 x] w fun e w' => e = .returned (.pointer (some ⟨w.heap.size + 1, 0, none⟩)) ∧ w' = bigWorld w x x := by
  have h0 : (x == 0) = false := by simp; omega
  go_enter Try.func9, Try.ntmps9
  go_wp2
  go_ret
  exact ⟨rfl, rfl⟩

set_option maxHeartbeats 400000 in
theorem big_neg (x : Int) (w : World) (h : x < 0) (hx : -9223372036854775808 ≤ x) : Calls Try.prog 9 #[.int .i64 x] w fun e w' => e = .returned (.pointer (some ⟨w.heap.size + 1, 0, none⟩)) ∧ w' = bigWorld w x (-x) := by
  have h0 : (x == 0) = false := by simp; omega
  have hm := mag x hx h
  go_enter Try.func9, Try.ntmps9
  go_wp2
  go_ret
  exact ⟨rfl, by simp [bigWorld, h]⟩

theorem div_any (lo p : Int) (w : World) (h0 : 0 ≤ lo) (h1 : lo ≤ 18446744073709551615) (hp : 1 ≤ p) (hp' : p ≤ 18446744073709551615) : Calls Try.prog 21 #[.int .u64 0, .int .u64 lo, .int .u64 p] w fun e w' => e = .returned (.tuple #[.int .u64 (lo / p), .int .u64 (lo % p)]) ∧ ∃ q, w' = w.drewN q := by
  have hp0 : (p == 0) = false := by simp; omega
  go_enter Try.func21, Try.ntmps21
  go_wp2_with fail
  go_quiet (fail)
  go_wp2
  go_ret2
  exact ⟨rfl, _, rfl⟩

theorem int0 (b : Nat) (p : Int) (w : World) (hc : w.cell? ⟨b, 1, none⟩ = some (.slice none 0 0)) : Calls Try.prog 16 #[.pointer (some ⟨b, 0, none⟩), .int .u64 p] w fun e w' => e = .returned (.int .u64 0) ∧ ∃ q, w' = w.drewN q := by
  go_enter Try.func16, Try.ntmps16
  go_wp2
  go_loopw [5, 7] (fun r i wr => r = .int .u64 0 ∧ i = .int .i64 (-1) ∧ wr = w) (fun _ _ _ => 0)
  case atStart => exact ⟨rfl, rfl, rfl⟩
  case round =>
    obtain ⟨rfl, rfl, rfl⟩ := hrel
    go_wp2
    go_ret
    exact ⟨rfl, 0, rfl⟩

/-- the loop over one word: ahead of its round, behind it -/
def Rel1 (m p : Int) (w : World) (r i : Value) (wr : World) : Prop := (r = .int .u64 0 ∧ i = .int .i64 0 ∧ wr = w) ∨ (r = .int .u64 (m % p) ∧ i = .int .i64 (-1) ∧ ∃ q, wr = w.drewN q)

set_option maxHeartbeats 400000 in
theorem int1 (b g : Nat) (m p : Int) (w : World) (h0 : 0 ≤ m) (h1 : m ≤ 18446744073709551615) (hp : 1 ≤ p) (hp' : p ≤ 18446744073709551615)
    (hc : w.cell? ⟨b, 1, none⟩ = some (.slice (some ⟨g, 0, none⟩) 1 1)) (hg : w.cell? ⟨g, 0, none⟩ = some (.int .u64 m)) :
    Calls Try.prog 16 #[.pointer (some ⟨b, 0, none⟩), .int .u64 p] w fun e w' => e = .returned (.int .u64 (m % p)) ∧ ∃ q, w' = w.drewN q := by
  go_enter Try.func16, Try.ntmps16
  go_wp2
  go_loopw [5, 7] (fun r i wr => Rel1 m p w r i wr) (fun _ i _ => (intOf i + 1).toNat)
  case atStart => exact .inl ⟨rfl, rfl, rfl⟩
  case round =>
    rcases hrel with ⟨rfl, rfl, rfl⟩ | ⟨rfl, rfl, q, rfl⟩
    · go_wp2_with fail
      go_quiet (fail)
      go_wp2_with fail
      refine (div_any m p _ h0 h1 hp hp').mono ?_
      rintro e w' ⟨rfl, q, rfl⟩
      go_wp2
      go_roundw
      case rel => first | exact .inr ⟨rfl, rfl, _, rfl⟩ | ((repeat apply Exists.intro); exact ⟨.inr ⟨rfl, rfl, _, rfl⟩, rfl⟩)
      case measure => simp [intOf]
    · go_wp2
      go_ret
      exact ⟨rfl, _, rfl⟩

theorem sign0 (b : Nat) (w : World) (hc : w.cell? ⟨b, 1, none⟩ = some (.slice none 0 0)) : Calls Try.prog 17 #[.pointer (some ⟨b, 0, none⟩)] w fun e w' => e = .returned (.int .i64 0) ∧ w' = w := by
  go_enter Try.func17, Try.ntmps17
  go_wp2
  go_ret
  exact ⟨rfl, rfl⟩

theorem sign1 (b : Nat) (g : Addr) (w : World) (hc : w.cell? ⟨b, 1, none⟩ = some (.slice (some g) 1 1)) (hn : w.cell? ⟨b, 0, none⟩ = some (.bool false)) :
    Calls Try.prog 17 #[.pointer (some ⟨b, 0, none⟩)] w fun e w' => e = .returned (.int .i64 1) ∧ w' = w := by
  go_enter Try.func17, Try.ntmps17
  go_wp2
  go_ret
  exact ⟨rfl, rfl⟩

theorem signN (b : Nat) (g : Addr) (w : World) (hc : w.cell? ⟨b, 1, none⟩ = some (.slice (some g) 1 1)) (hn : w.cell? ⟨b, 0, none⟩ = some (.bool true)) :
    Calls Try.prog 17 #[.pointer (some ⟨b, 0, none⟩)] w fun e w' => e = .returned (.int .i64 (-1)) ∧ w' = w := by
  go_enter Try.func17, Try.ntmps17
  go_wp2
  go_ret
  exact ⟨rfl, rfl⟩

/-! ### SignedResidue (8) of such a number -/
theorem res0 (b : Nat) (p : Int) (w : World) (hc : w.cell? ⟨b, 1, none⟩ = some (.slice none 0 0)) : Calls Try.prog 8 #[.pointer (some ⟨b, 0, none⟩), .int .u64 p] w fun e w' => e = .returned (.int .u64 0) ∧ ∃ q, w' = w.drewN q := by
  go_enter Try.func8, Try.ntmps8
  go_wp2_with fail
  refine (int0 b p w hc).mono ?_
  rintro e w' ⟨rfl, q, rfl⟩
  go_wp2_with fail
  refine (sign0 b _ (by simpa using hc)).mono ?_
  rintro e w' ⟨rfl, rfl⟩
  go_wp2
  go_ret
  exact ⟨rfl, _, rfl⟩

set_option maxHeartbeats 400000 in
theorem resP (b g : Nat) (x p : Int) (w : World) (h0 : 0 ≤ x) (h1 : x ≤ 9223372036854775807) (hp : 1 ≤ p) (hp' : p ≤ 18446744073709551615)
    (hc : w.cell? ⟨b, 1, none⟩ = some (.slice (some ⟨g, 0, none⟩) 1 1)) (hn : w.cell? ⟨b, 0, none⟩ = some (.bool false)) (hg : w.cell? ⟨g, 0, none⟩ = some (.int .u64 x)) :
    Calls Try.prog 8 #[.pointer (some ⟨b, 0, none⟩), .int .u64 p] w fun e w' => e = .returned (.int .u64 (x % p)) ∧ ∃ q, w' = w.drewN q := by
  go_enter Try.func8, Try.ntmps8
  go_wp2_with fail
  refine (int1 b g x p w h0 (by omega) hp hp' hc hg).mono ?_
  rintro e w' ⟨rfl, q, rfl⟩
  go_wp2_with fail
  refine (sign1 b _ _ (by simpa using hc) (by simpa using hn)).mono ?_
  rintro e w' ⟨rfl, rfl⟩
  go_wp2
  go_ret
  exact ⟨rfl, _, rfl⟩

theorem wayN {x p : Int} (hp : 1 ≤ p) (hp' : p ≤ 18446744073709551615) (h : ((-x) % p != 0) = true) : IntKind.u64.wrap (p - (-x) % p) = x % p := by
  have hne : (-x) % p ≠ 0 := by simpa using h
  have h3 := Int.emod_nonneg (-x) (show p ≠ 0 by omega)
  have h4 := Int.emod_lt_of_pos (-x) (show 0 < p by omega)
  rw [neg_rem x p hp hne, IntKind.wrap_u64]
  omega

set_option maxHeartbeats 400000 in
theorem resN (b g : Nat) (x p : Int) (w : World) (h0 : x < 0) (h1 : -9223372036854775808 ≤ x) (hp : 1 ≤ p) (hp' : p ≤ 18446744073709551615)
    (hc : w.cell? ⟨b, 1, none⟩ = some (.slice (some ⟨g, 0, none⟩) 1 1)) (hn : w.cell? ⟨b, 0, none⟩ = some (.bool true)) (hg : w.cell? ⟨g, 0, none⟩ = some (.int .u64 (-x))) :
    Calls Try.prog 8 #[.pointer (some ⟨b, 0, none⟩), .int .u64 p] w fun e w' => e = .returned (.int .u64 (x % p)) ∧ ∃ q, w' = w.drewN q := by
  go_enter Try.func8, Try.ntmps8
  go_wp2_with fail
  refine (int1 b g (-x) p w (by omega) (by omega) hp hp' hc hg).mono ?_
  rintro e w' ⟨rfl, q, rfl⟩
  go_wp2_with fail
  refine (signN b _ _ (by simpa using hc) (by simpa using hn)).mono ?_
  rintro e w' ⟨rfl, rfl⟩
  go_wp2
  · go_ret
    exact ⟨ret_int (wayN hp hp' (by assumption)), _, rfl⟩
  · have he : (-x) % p = 0 := by have h : ((-x) % p != 0) = false := by assumption
                                 simpa using h
    go_ret
    exact ⟨ret_int (he.trans (neg_rem0 x p he).symm), _, rfl⟩
end Go.Proofs.Qxb6605767a.Res
