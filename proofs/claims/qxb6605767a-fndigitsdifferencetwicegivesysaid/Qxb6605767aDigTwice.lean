/-
  The law 'FnDigitsDifferenceTwiceGivesY' (6), out of its callees' contracts.
-/
import Derived.Test.Qxb6605767aDigAdds
namespace Go.Proofs.Qxb6605767a.Dig
open Go.RowKit
set_option linter.unusedVariables false

theorem bytes15 (x y : ByteArray) (w : World) (hx : x.size ≤ maxLen) (hy : y.size ≤ maxLen) : Calls Try.prog 15 #[.string x, .string y] w (BoolPost w) := by
  unfold maxLen at hx hy
  go_enter Try.func15, Try.ntmps15
  go_wp2
  all_goals
    go_ret
    exact ⟨_, rfl, rfl⟩

theorem twice_chr (x y : ByteArray) (dx : IsDig x) (dy : IsDig y) (p : Nat) (h : p < x.size) : chr (diffStr x (diffStr x y)) p = 48 + pl y (x.size - 1 - p) := by
  rw [diffStr_chr x _ p h, dif_twice dx.pl dy.pl x.size (fun j hj => diffStr_pl x y j hj) _ (by omega)]

set_option maxHeartbeats 1000000 in
theorem twice_any (x y : ByteArray) (w : World) (hx : x.size ≤ maxLen) (hy : y.size ≤ maxLen) :
    Calls Try.prog 6 #[.string x, .string y] w fun e w' => e = .returned (.bool true) ∧ Below w.heap.size w w' := by
  have hx' := hx
  have hy' := hy
  unfold maxLen at hx' hy'
  go_enter Try.func6, Try.ntmps6
  go_wp2_with fail
  refine (bytes15 x y _ hx hy).mono ?_
  rintro e w' ⟨r, rfl, hw⟩; subst w'
  cases r with
  | false =>
    go_wp2_with fail
    go_ret
    exact ⟨rfl, Below.refl _ _⟩
  | true =>
    go_wp2_with fail
    all_goals first | (go_ret; exact ⟨rfl, Below.refl _ _⟩) | skip
    have lx : x.size ≤ 65536 := by omega
    have ly : y.size ≤ 65536 := by omega
    refine (digits_any x _ lx).mono ?_
    rintro e w' ⟨r, rfl, hw, hr⟩; subst w'
    cases r with
    | false =>
      clear hr
      go_wp2_with fail
      go_ret
      exact ⟨rfl, Below.refl _ _⟩
    | true =>
      have dx := hr rfl
      clear hr
      have DX : Hid (IsDig x) := dx
      clear dx
      go_wp2_with fail
      refine (digits_any y _ ly).mono ?_
      rintro e w' ⟨r, rfl, hw, hr⟩; subst w'
      cases r with
      | false =>
        clear hr
        go_wp2_with fail
        go_ret
        exact ⟨rfl, Below.refl _ _⟩
      | true =>
        have DY : Hid (IsDig y) := hr rfl
        clear hr
        go_wp2_with fail
        all_goals first | (go_ret; exact ⟨rfl, Below.refl _ _⟩) | skip
        have hyx : y.size ≤ x.size := by assumption
        refine (notLess_any x y _ lx hyx DY.out.pl).mono ?_
        rintro e w' ⟨r, rfl, hw, hr⟩; subst w'
        cases r with
        | false =>
          clear hr
          go_wp2_with fail
          go_ret
          exact ⟨rfl, Below.refl _ _⟩
        | true =>
          clear hr
          go_wp2_with fail
          refine (zzdiff_any x y _ lx hyx DX.out DY.out).mono ?_
          rintro e w1 ⟨rfl, hb1⟩
          have hds := diffStr_size x y
          have HDD : Hid (IsDig (diffStr x y)) := diffStr_dig x y
          have hes := diffStr_size x (diffStr x y)
          have HEC : Hid (∀ p, p < x.size → chr (diffStr x (diffStr x y)) p = 48 + pl y (x.size - 1 - p)) := twice_chr x y DX.out DY.out
          have HE : Hid (∀ w, Calls Try.prog 13 #[.string x, .string (diffStr x y)] w fun e w' => e = .returned (.string (diffStr x (diffStr x y))) ∧ Below w.heap.size w w') := fun w => zzdiff_any x (diffStr x y) w lx (by omega) DX.out HDD.out
          generalize diffStr x (diffStr x y) = e at *
          generalize diffStr x y = d at *
          go_wp2_with fail
          refine (HE.out _).mono ?_
          rintro r w2 ⟨rfl, hb2⟩
          have hb3 := hb1.trans (hb2.mono hb1.size)
          clear hb1 hb2
          go_wp2_with fail
          go_loopw [7] (fun i wr => ∃ k : Nat, k ≤ x.size ∧ i = .int .i64 k ∧ Below w.heap.size w wr) (fun i _ => x.size - (intOf i).toNat)
          case atStart => exact ⟨0, Nat.zero_le _, rfl, hb3⟩
          case round =>
            obtain ⟨k, hk, rfl, hbr⟩ := hrel
            by_cases hlt : k < x.size
            · have hke : k < e.size := by omega
              have HC : Hid ((e[k].toNat : Int) = 48 + pl y (x.size - 1 - k)) := (chr_get e k hke).trans (HEC.out k hlt)
              obtain ⟨v, hv⟩ : ∃ v, v = pl y (x.size - 1 - k) := ⟨_, rfl⟩
              have HA : Hid (∀ w, Calls Try.prog 14 #[.string y, .int .i64 x.size, .int .i64 k] w fun e w' => e = .returned (.int .u8 (48 + v)) ∧ w' = w) := fun w => by
                rw [hv]
                exact aligned_any y x.size k w hyx hlt lx
              rw [← hv] at HC
              clear hv
              have hne : ((e[k].toNat : Int) != 48 + v) = false := by rw [bne_eq_false_iff_eq]; exact HC.out
              go_wp2_with fail
              go_quiet ((go_at_call 14; exact Calls.quiet_of_same (HA.out _)))
              go_wp2
              go_roundw
              case rel => exact ⟨k + 1, by omega, by go_num, hbr.trans ((draws wr _).mono hbr.size)⟩
              case measure => simp [intOf]; omega
            · go_wp2
              go_ret
              exact ⟨rfl, hbr⟩
end Go.Proofs.Qxb6605767a.Dig
