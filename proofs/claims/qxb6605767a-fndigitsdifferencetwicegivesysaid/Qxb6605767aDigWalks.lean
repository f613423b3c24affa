/-
  The walks of the helpers: 'zzAllDigits' (11), 'zzAlignedDigit' (14), 'zzNotLess' (12).
-/
import Derived.Test.Qxb6605767aRows
import Derived.Test.Qxb6605767aDigPlain
import Derived.WalkKit
import Derived.WalkSpells
namespace Go.Proofs.Qxb6605767a.Dig
open Go.RowKit
set_option linter.unusedVariables false

theorem digits_yes (s : ByteArray) (w : World) (hs : s.size ≤ 65536) (hd : IsDig s) : Calls Try.prog 11 #[.string s] w fun e w' => e = .returned (.bool true) ∧ w' = w := by
  go_enter Try.func11, Try.ntmps11
  go_wp2
  go_loop [3] (fun i => ∃ k : Nat, k ≤ s.size ∧ i = .int .i64 k) (fun i => s.size - (intOf i).toNat)
  case atStart => exact ⟨0, Nat.zero_le _, rfl⟩
  case round =>
    obtain ⟨k, hk, rfl⟩ := hrel
    by_cases hlt : k < s.size
    · have hb := hd k hlt
      rw [← chr_get s k hlt] at hb
      go_wp2
      go_round
      case rel => exact ⟨k + 1, by omega, by go_num⟩
      case measure => simp [intOf]; omega
    · go_wp2
      go_ret
      exact ⟨rfl, rfl⟩

/-- 'zzAllDigits' answers some bool; where it is true, all are digits. -/
def DigPost (s : ByteArray) (w : World) (e : Ending) (w' : World) : Prop := ∃ r : Bool, e = .returned (.bool r) ∧ w' = w ∧ (r = true → IsDig s)

theorem digits_any (s : ByteArray) (w : World) (hs : s.size ≤ 65536) : Calls Try.prog 11 #[.string s] w (DigPost s w) := by
  go_enter Try.func11, Try.ntmps11
  go_wp2
  go_loop [3] (fun i => ∃ k : Nat, k ≤ s.size ∧ i = .int .i64 k ∧ ∀ j, j < k → 48 ≤ chr s j ∧ chr s j ≤ 57) (fun i => s.size - (intOf i).toNat)
  case atStart => exact ⟨0, Nat.zero_le _, rfl, fun j hj => absurd hj (Nat.not_lt_zero _)⟩
  case round =>
    obtain ⟨k, hk, rfl, hin⟩ := hrel
    have HI : Hid (∀ j, j < k → 48 ≤ chr s j ∧ chr s j ≤ 57) := hin
    clear hin
    by_cases hlt : k < s.size
    · have HC : Hid ((s[k].toNat : Int) = chr s k) := chr_get s k hlt
      by_cases hb : 48 ≤ (s[k].toNat : Int) ∧ (s[k].toNat : Int) ≤ 57
      · go_wp2
        go_round
        case rel =>
          refine ⟨k + 1, by omega, by go_num, fun j hj => ?_⟩
          by_cases e : j = k
          · subst e; rw [← HC.out]; exact hb
          · exact HI.out j (by omega)
        case measure => simp [intOf]; omega
      · go_wp2
        all_goals
          go_ret
          exact ⟨false, rfl, rfl, fun h => by cases h⟩
    · obtain rfl : k = s.size := by omega
      go_wp2
      go_ret
      exact ⟨true, rfl, rfl, fun _ => HI.out⟩

theorem aligned_low (s : ByteArray) (n i : Nat) (w : World) (hs : s.size ≤ n) (hi : i < n) (hn : n ≤ 65536) (h : i < n - s.size) :
    Calls Try.prog 14 #[.string s, .int .i64 n, .int .i64 i] w fun e w' => e = .returned (.int .u8 (48 + pl s (n - 1 - i))) ∧ w' = w := by
  have HP : Hid (pl s (n - 1 - i) = 0) := pl_off s _ (by omega)
  have h' : (i : Int) < (n : Int) - (s.size : Int) := by omega
  go_enter Try.func14, Try.ntmps14
  go_wp2
  go_ret
  exact ⟨by rw [HP.out]; rfl, rfl⟩

theorem chr_idx {s : ByteArray} {t k : Nat} (h : t < s.size) (e : t = k) : ((s[t]'h).toNat : Int) = chr s k := by
  subst e
  exact chr_get s t h

theorem ret_int {k : IntKind} {a b : Int} (h : a = b) : Ending.returned (.int k a) = .returned (.int k b) := by rw [h]

theorem pl_high (s : ByteArray) (n i : Nat) (hs : s.size ≤ n) (hi : i < n) (h : ¬ i < n - s.size) : chr s (i - (n - s.size)) = 48 + pl s (n - 1 - i) := by
  rw [pl_at s _ (by omega), show s.size - 1 - (n - 1 - i) = i - (n - s.size) by omega]
  omega

theorem aligned_high (s : ByteArray) (n i : Nat) (w : World) (hs : s.size ≤ n) (hi : i < n) (hn : n ≤ 65536) (h : ¬ i < n - s.size) :
    Calls Try.prog 14 #[.string s, .int .i64 n, .int .i64 i] w fun e w' => e = .returned (.int .u8 (48 + pl s (n - 1 - i))) ∧ w' = w := by
  have HP : Hid (chr s (i - (n - s.size)) = 48 + pl s (n - 1 - i)) := pl_high s n i hs hi h
  have h1 : (n : Int) - (s.size : Int) ≤ (i : Int) := by omega
  have h2 : (i : Int) - ((n : Int) - (s.size : Int)) < (s.size : Int) := by omega
  go_enter Try.func14, Try.ntmps14
  go_wp2
  go_ret
  exact ⟨ret_int ((chr_idx _ (by omega)).trans HP.out), rfl⟩

theorem aligned_any (s : ByteArray) (n i : Nat) (w : World) (hs : s.size ≤ n) (hi : i < n) (hn : n ≤ 65536) :
    Calls Try.prog 14 #[.string s, .int .i64 n, .int .i64 i] w fun e w' => e = .returned (.int .u8 (48 + pl s (n - 1 - i))) ∧ w' = w := by
  by_cases h : i < n - s.size
  · exact aligned_low s n i w hs hi hn h
  · exact aligned_high s n i w hs hi hn h

/-- 'zzNotLess' answers some bool; where it is true, x is not less than y. -/
def LessPost (x y : ByteArray) (w : World) (e : Ending) (w' : World) : Prop := ∃ r : Bool, e = .returned (.bool r) ∧ w' = w ∧ (r = true → NotLess x.size (pl x) (pl y))

theorem pl_of (x : ByteArray) (i : Nat) (hi : i < x.size) : pl x (x.size - 1 - i) = (x[i].toNat : Int) - 48 := by
  rw [pl_at x _ (by omega), chr_get x i hi, show x.size - 1 - (x.size - 1 - i) = i by omega]

set_option maxHeartbeats 400000 in
theorem notLess_any (x y : ByteArray) (w : World) (hx : x.size ≤ 65536) (hy : y.size ≤ x.size) (dy : Digits (pl y)) : Calls Try.prog 12 #[.string x, .string y] w (LessPost x y w) := by
  go_enter Try.func12, Try.ntmps12
  go_wp2
  go_loop [5] (fun i => ∃ k : Nat, k ≤ x.size ∧ i = .int .i64 k ∧ ∀ j, j < k → pl x (x.size - 1 - j) = pl y (x.size - 1 - j)) (fun i => x.size - (intOf i).toNat)
  case atStart => exact ⟨0, Nat.zero_le _, rfl, fun j hj => absurd hj (Nat.not_lt_zero _)⟩
  case round =>
    obtain ⟨k, hk, rfl, hin⟩ := hrel
    have HI : Hid (∀ j, j < k → pl x (x.size - 1 - j) = pl y (x.size - 1 - j)) := hin
    clear hin
    by_cases hlt : k < x.size
    · have HX : Hid (pl x (x.size - 1 - k) = (x[k].toNat : Int) - 48) := pl_of x k hlt
      have hyd := dy (x.size - 1 - k)
      obtain ⟨q, hq⟩ : ∃ q, q = pl y (x.size - 1 - k) := ⟨_, rfl⟩
      rw [← hq] at hyd
      have hal : ∀ w, Calls Try.prog 14 #[.string y, .int .i64 x.size, .int .i64 k] w fun e w' => e = .returned (.int .u8 (48 + q)) ∧ w' = w := fun w => by
        rw [hq]
        exact aligned_any y x.size k w hy hlt hx
      have HQ : Hid (q = pl y (x.size - 1 - k)) := hq
      have HA := hal
      clear hq hal
      have HB : Hid (∀ w, Calls Try.prog 14 #[.string y, .int .i64 x.size, .int .i64 k] w fun e w' => e = .returned (.int .u8 (48 + q)) ∧ w' = w) := HA
      clear HA
      by_cases hc : (x[k].toNat : Int) = 48 + q
      · have hne : ((x[k].toNat : Int) != 48 + q) = false := by simp [hc]
        have HC : Hid ((x[k].toNat : Int) = 48 + q) := hc
        clear hc
        go_wp2_with (go_at_call 14; refine (HB.out _).mono ?_; rintro e w' ⟨rfl, rfl⟩)
        go_round
        case rel =>
          refine ⟨k + 1, by omega, by go_num, fun j hj => ?_⟩
          by_cases e : j = k
          · subst e
            rw [HX.out, HC.out, ← HQ.out]
            omega
          · exact HI.out j (by omega)
        case measure => simp [intOf]; omega
      · have hne : ((x[k].toNat : Int) != 48 + q) = true := by simp [hc]
        clear hc
        go_wp2_with (go_at_call 14; refine (HB.out _).mono ?_; rintro e w' ⟨rfl, rfl⟩)
        go_ret
        refine ⟨_, rfl, rfl, fun hr => ⟨k, hk, HI.out, .inr ?_⟩⟩
        have hr' : 48 + q < (x[k].toNat : Int) := by simpa using hr
        rw [HX.out, ← HQ.out]
        omega
    · obtain rfl : k = x.size := by omega
      go_wp2
      go_ret
      exact ⟨true, rfl, rfl, fun _ => ⟨x.size, Nat.le_refl _, HI.out, .inl rfl⟩⟩

end Go.Proofs.Qxb6605767a.Dig
