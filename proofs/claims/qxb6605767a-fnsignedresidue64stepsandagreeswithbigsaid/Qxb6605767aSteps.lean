/-
  The law 'FnSignedResidue64StepsAndAgreesWithBig' (4), out of its callees' contracts.
-/
import Derived.Test.Qxb6605767aBig
namespace Go.Proofs.Qxb6605767a.Res
open Go.RowKit
set_option linter.unusedVariables false

/-- ZZBigInt hands back a pointer at which SignedResidue finds x's residue. -/
def BigPost (x p : Int) (w : World) (e : Ending) (w' : World) : Prop :=
  ∃ b, e = .returned (.pointer (some ⟨b, 0, none⟩)) ∧ Below w.heap.size w w' ∧ Calls Try.prog 8 #[.pointer (some ⟨b, 0, none⟩), .int .u64 p] w' fun e w'' => e = .returned (.int .u64 (x % p)) ∧ ∃ q, w'' = w'.drewN q

theorem below2 (w : World) (o1 o2 : Obj) : Below w.heap.size w ((w.alloc o1).alloc o2) := ((Below.refl _ _).alloc (Nat.le_refl _) _).alloc (by simp) _

theorem zzbig (x p : Int) (w : World) (hx : -9223372036854775808 ≤ x) (hx' : x ≤ 9223372036854775807) (hp : 1 ≤ p) (hp' : p ≤ 18446744073709551615) : Calls Try.prog 9 #[.int .i64 x] w (BigPost x p w) := by
  by_cases h0 : x = 0
  · subst h0
    refine (big_zero w).mono ?_
    rintro e w' ⟨rfl, rfl⟩
    refine ⟨_, rfl, (Below.refl _ _).alloc (Nat.le_refl _) _, ?_⟩
    rw [Int.zero_emod]
    exact res0 _ p _ (by simp)
  · by_cases h1 : x < 0
    · refine (big_neg x w h1 hx).mono ?_
      rintro e w' ⟨rfl, rfl⟩
      refine ⟨_, rfl, below2 w _ _, resN _ w.heap.size x p _ h1 hx hp hp' ?_ ?_ ?_⟩
      · unfold bigWorld; simp [go_sem]
      · unfold bigWorld; simp [go_sem, h1]
      · unfold bigWorld; simp [go_sem]
    · refine (big_pos x w (by omega) hx').mono ?_
      rintro e w' ⟨rfl, rfl⟩
      refine ⟨_, rfl, below2 w _ _, resP _ w.heap.size x p _ (by omega) hx' hp hp' ?_ ?_ ?_⟩
      · unfold bigWorld; simp [go_sem]
      · unfold bigWorld; simp [go_sem]; omega
      · unfold bigWorld; simp [go_sem]

theorem next_rem (x p : Int) (hp : 1 ≤ p) : (x + 1) % p = if x % p + 1 = p then 0 else x % p + 1 := by
  have h1 := Int.emod_nonneg x (show p ≠ 0 by omega)
  have h2 := Int.emod_lt_of_pos x (show 0 < p by omega)
  have h3 := Int.mul_ediv_add_emod x p
  have e : x + 1 = (x % p + 1) + p * (x / p) := by omega
  rw [e, Int.add_mul_emod_self_left]
  split
  · rename_i h
    rw [h, Int.emod_self]
  · exact Int.emod_eq_of_lt (by omega) (by omega)

theorem steps_zero (x : Int) (w : World) : Calls Try.prog 4 #[.int .i64 x, .int .u64 0] w fun e w' => e = .returned (.bool true) ∧ Below w.heap.size w w' := by
  go_enter Try.func4, Try.ntmps4
  go_wp2
  go_ret
  exact ⟨rfl, Below.refl _ _⟩

set_option maxHeartbeats 1000000 in
theorem steps_any (x p : Int) (w : World) (hx : -9223372036854775808 ≤ x) (hx' : x ≤ 9223372036854775807) (hp : 1 ≤ p) (hp' : p ≤ 18446744073709551615) :
    Calls Try.prog 4 #[.int .i64 x, .int .u64 p] w fun e w' => e = .returned (.bool true) ∧ Below w.heap.size w w' := by
  have hp0 : (p == 0) = false := by simp; omega
  have h1 := Int.emod_nonneg x (show p ≠ 0 by omega)
  have h2 := Int.emod_lt_of_pos x (show 0 < p by omega)
  have HR : Hid (∀ w, Calls Try.prog 7 #[.int .i64 x, .int .u64 p] w fun e w' => e = .returned (.int .u64 (x % p)) ∧ w' = w) := fun w => residue_any x p w hx hx' hp hp'
  have HZ : Hid (∀ w, Calls Try.prog 9 #[.int .i64 x] w (BigPost x p w)) := fun w => zzbig x p w hx hx' hp hp'
  unfold BigPost at HZ
  have HN : Hid ((x + 1) % p = if x % p + 1 = p then 0 else x % p + 1) := next_rem x p hp
  generalize x % p = r at *
  go_enter Try.func4, Try.ntmps4
  go_wp2_with fail
  refine (HR.out _).mono ?_
  rintro e w' ⟨rfl, hw⟩; subst w'
  go_wp2_with fail
  refine (HZ.out _).mono ?_
  rintro e w1 ⟨b, rfl, hb1, hc⟩
  have HC := hc
  clear hc
  go_wp2_with fail
  refine HC.mono ?_
  rintro e w2 ⟨rfl, q, hw⟩; subst w2
  clear HC
  by_cases hlt : x < 9223372036854775807
  · by_cases hw : r + 1 = p
    · have hnx : (x + 1) % p = 0 := by rw [HN.out, if_pos hw]
      have hwp : (r + 1 == p) = true := by simp [hw]
      have HX : Hid (∀ w, Calls Try.prog 7 #[.int .i64 (x + 1), .int .u64 p] w fun e w' => e = .returned (.int .u64 0) ∧ w' = w) := fun w => by
        rw [← hnx]
        exact residue_any (x + 1) p w (by omega) (by omega) hp hp'
      clear hnx hw
      go_wp2_with fail
      refine (HX.out _).mono ?_
      rintro e w' ⟨rfl, hw⟩; subst w'
      go_wp2
      go_ret
      exact ⟨rfl, hb1.trans ⟨rfl, rfl, rfl, Nat.le_refl _, fun _ _ => rfl⟩⟩
    · have hnx : (x + 1) % p = r + 1 := by rw [HN.out, if_neg hw]
      have hwp : (r + 1 == p) = false := by simp [hw]
      have HX : Hid (∀ w, Calls Try.prog 7 #[.int .i64 (x + 1), .int .u64 p] w fun e w' => e = .returned (.int .u64 (r + 1)) ∧ w' = w) := fun w => by
        rw [← hnx]
        exact residue_any (x + 1) p w (by omega) (by omega) hp hp'
      clear hnx hw
      go_wp2_with fail
      refine (HX.out _).mono ?_
      rintro e w' ⟨rfl, hw⟩; subst w'
      go_wp2
      go_ret
      exact ⟨rfl, hb1.trans ⟨rfl, rfl, rfl, Nat.le_refl _, fun _ _ => rfl⟩⟩
  · go_wp2
    go_ret
    exact ⟨rfl, hb1.trans ⟨rfl, rfl, rfl, Nat.le_refl _, fun _ _ => rfl⟩⟩
end Go.Proofs.Qxb6605767a.Res
