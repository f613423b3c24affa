/-
  The law 'FnDigitsDifferenceAddsBackToX' (5), out of its callees' contracts.
-/
import Derived.Test.Qxb6605767aDigDiff
import Derived.Deep.QuietTactic
import Derived.BigQuiet
namespace Go.Proofs.Qxb6605767a.Dig
open Go.RowKit
set_option linter.unusedVariables false

def BoolPost (w : World) (e : Ending) (w' : World) : Prop := ∃ r : Bool, e = .returned (.bool r) ∧ w' = w

theorem bytes10 (x y : ByteArray) (w : World) (hx : x.size ≤ maxLen) (hy : y.size ≤ maxLen) : Calls Try.prog 10 #[.string x, .string y] w (BoolPost w) := by
  unfold maxLen at hx hy
  go_enter Try.func10, Try.ntmps10
  go_wp2
  all_goals
    go_ret
    exact ⟨_, rfl, rfl⟩

theorem draws (w : World) (q : Nat) : Below w.heap.size w (w.drewN q) := ⟨rfl, rfl, rfl, Nat.le_refl _, fun _ _ => rfl⟩

theorem back_way {x y d : ByteArray} {m : Nat} {v c : Int} (dx : Digits (pl x)) (hm : m < x.size) (hmd : m < d.size) (hd : (d[m].toNat : Int) = 48 + dif (pl x) (pl y) (x.size - 1 - m)) (hv : v = pl y (x.size - 1 - m)) (hc : c = bor (pl x) (pl y) (x.size - (m + 1))) :
    ((x[m].toNat : Int) != 48 + ((d[m].toNat : Int) - 48 + (48 + v - 48) + c) % 10) = false ∧ ((d[m].toNat : Int) - 48 + (48 + v - 48) + c) / 10 = bor (pl x) (pl y) (x.size - m) := by
  have hb := back_step (y := pl y) dx (x.size - 1 - m)
  have hx := pl_of x m hm
  have e1 : x.size - (m + 1) = x.size - 1 - m := by omega
  have e2 : x.size - m = x.size - 1 - m + 1 := by omega
  rw [e1] at hc
  rw [e2]
  have e3 : (d[m].toNat : Int) - 48 + (48 + v - 48) + c = dif (pl x) (pl y) (x.size - 1 - m) + pl y (x.size - 1 - m) + bor (pl x) (pl y) (x.size - 1 - m) := by omega
  rw [e3, hb.1, hb.2]
  refine ⟨?_, rfl⟩
  rw [bne_eq_false_iff_eq]
  omega

theorem ret_bool {a b : Bool} (h : a = b) : Ending.returned (.bool a) = .returned (.bool b) := by rw [h]
theorem int_eq' {k : IntKind} {a b : Int} (h : a = b) : Value.int k a = .int k b := by rw [h]

set_option maxHeartbeats 1000000 in
/-- the loop that adds back -/
theorem adds_any (x y : ByteArray) (w : World) (hx : x.size ≤ maxLen) (hy : y.size ≤ maxLen) :
    Calls Try.prog 5 #[.string x, .string y] w fun e w' => e = .returned (.bool true) ∧ Below w.heap.size w w' := by
  have hx' := hx
  have hy' := hy
  unfold maxLen at hx' hy'
  go_enter Try.func5, Try.ntmps5
  go_wp2_with fail
  refine (bytes10 x y _ hx hy).mono ?_
  rintro e w' ⟨r, rfl, hw⟩; subst w'
  cases r with
  | false =>
    go_wp2_with fail
    go_ret
    exact ⟨rfl, Below.refl _ _⟩
  | true =>
    go_wp2_with fail
    all_goals first | (go_ret; exact ⟨rfl, Below.refl _ _⟩) | skip
    have lx : x.size ≤ 65536 := by omega
    have ly : y.size ≤ 65536 := by omega
    refine (digits_any x _ lx).mono ?_
    rintro e w' ⟨r, rfl, hw, hr⟩; subst w'
    cases r with
    | false =>
      clear hr
      go_wp2_with fail
      go_ret
      exact ⟨rfl, Below.refl _ _⟩
    | true =>
      have dx := hr rfl
      clear hr
      have DX : Hid (IsDig x) := dx
      clear dx
      go_wp2_with fail
      refine (digits_any y _ ly).mono ?_
      rintro e w' ⟨r, rfl, hw, hr⟩; subst w'
      cases r with
      | false =>
        clear hr
        go_wp2_with fail
        go_ret
        exact ⟨rfl, Below.refl _ _⟩
      | true =>
        have DY : Hid (IsDig y) := hr rfl
        clear hr
        go_wp2_with fail
        all_goals first | (go_ret; exact ⟨rfl, Below.refl _ _⟩) | skip
        have hyx : y.size ≤ x.size := by assumption
        refine (notLess_any x y _ lx hyx DY.out.pl).mono ?_
        rintro e w' ⟨r, rfl, hw, hr⟩; subst w'
        cases r with
        | false =>
          clear hr
          go_wp2_with fail
          go_ret
          exact ⟨rfl, Below.refl _ _⟩
        | true =>
          have HB : Hid (bor (pl x) (pl y) x.size = 0) := bor_top DX.out.pl DY.out.pl x.size (hr rfl)
          clear hr
          go_wp2_with fail
          refine (zzdiff_any x y _ lx hyx DX.out DY.out).mono ?_
          rintro e w1 ⟨rfl, hb1⟩
          have hds := diffStr_size x y
          have HDD : Hid (IsDig (diffStr x y)) := diffStr_dig x y
          have HDC : Hid (∀ p, p < x.size → chr (diffStr x y) p = 48 + dif (pl x) (pl y) (x.size - 1 - p)) := diffStr_chr x y
          generalize diffStr x y = d at *
          go_wp2_with fail
          refine (digits_yes d _ (by omega) HDD.out).mono ?_
          rintro e w2 ⟨rfl, hw⟩; subst w2
          go_wp2_with fail
          go_loopw [6, 7] (fun c i wr => ∃ p : Nat, p ≤ x.size ∧ i = .int .i64 ((p : Int) - 1) ∧ c = .int .i64 (bor (pl x) (pl y) (x.size - p)) ∧ Below w.heap.size w wr) (fun _ i _ => (intOf i + 1).toNat)
          case atStart => exact ⟨x.size, Nat.le_refl _, rfl, by simp [bor], hb1⟩
          case round =>
            obtain ⟨p, hp, rfl, rfl, hbr⟩ := hrel
            cases p with
            | zero =>
              go_wp2
              go_ret
              exact ⟨ret_bool (by rw [HB.out]; rfl), hbr⟩
            | succ m =>
              have hm : m < x.size := by omega
              have hmd : m < d.size := by omega
              have HC : Hid ((d[m].toNat : Int) = 48 + dif (pl x) (pl y) (x.size - 1 - m)) := (chr_get d m hmd).trans (HDC.out m hm)
              have hcd := HDD.out m hmd
              rw [← chr_get d m hmd] at hcd
              have hyd := DY.out.pl (x.size - 1 - m)
              obtain ⟨v, hv⟩ : ∃ v, v = pl y (x.size - 1 - m) := ⟨_, rfl⟩
              rw [← hv] at hyd
              have HA : Hid (∀ w, Calls Try.prog 14 #[.string y, .int .i64 x.size, .int .i64 m] w fun e w' => e = .returned (.int .u8 (48 + v)) ∧ w' = w) := fun w => by
                rw [hv]
                exact aligned_any y x.size m w hyx hm lx
              have HV : Hid (v = pl y (x.size - 1 - m)) := hv
              clear hv
              have hb := bor_01 DX.out.pl DY.out.pl (x.size - (m + 1))
              obtain ⟨c, hc⟩ : ∃ c, c = bor (pl x) (pl y) (x.size - (m + 1)) := ⟨_, rfl⟩
              rw [← hc] at hb ⊢
              have HCC : Hid (c = bor (pl x) (pl y) (x.size - (m + 1))) := hc
              clear hc
              have W := back_way DX.out.pl hm hmd HC.out HV.out HCC.out
              have hne := W.1
              have HQ : Hid (_ = _) := W.2
              clear W
              rw [show (((m + 1 : Nat) : Int) - 1) = (m : Int) by omega]
              go_wp2_with fail
              go_quiet ((go_at_call 14; exact Calls.quiet_of_same (HA.out _)))
              go_wp2
              go_roundw
              case rel => exact ⟨m, by omega, rfl, int_eq' HQ.out, hbr.trans ((draws wr _).mono hbr.size)⟩
              case measure => simp [intOf]
end Go.Proofs.Qxb6605767a.Dig
