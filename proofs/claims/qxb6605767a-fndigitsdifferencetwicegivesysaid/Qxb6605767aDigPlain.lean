/-
  Digit strings by their places, borrow and difference: the plain law. No Go in sight.
-/
import Derived.RowKit
namespace Go.Proofs.Qxb6605767a.Dig

/-- the i-th byte of s -/
def chr (s : ByteArray) (i : Nat) : Int := ((s.data.toList.getD i 0).toNat : Int)
/-- the digit of s at place j, counted from the right; nought beyond its end -/
def pl (s : ByteArray) (j : Nat) : Int := if j < s.size then chr s (s.size - 1 - j) - 48 else 0

theorem chr_get (s : ByteArray) (i : Nat) (h : i < s.size) : (s[i].toNat : Int) = chr s i := by
  unfold chr
  have h' : i < s.data.toList.length := by rw [Array.length_toList]; exact h
  rw [List.getD_eq_getElem?_getD, List.getElem?_eq_getElem h']
  rfl

theorem chr_bd (s : ByteArray) (i : Nat) : 0 ≤ chr s i ∧ chr s i ≤ 255 := by
  unfold chr
  have := UInt8.toNat_lt (s.data.toList.getD i 0)
  omega

theorem pl_at (s : ByteArray) (j : Nat) (h : j < s.size) : pl s j = chr s (s.size - 1 - j) - 48 := if_pos h
theorem pl_off (s : ByteArray) (j : Nat) (h : ¬ j < s.size) : pl s j = 0 := if_neg h

def Digits (x : Nat → Int) : Prop := ∀ j, 0 ≤ x j ∧ x j ≤ 9
def IsDig (s : ByteArray) : Prop := ∀ i, i < s.size → 48 ≤ chr s i ∧ chr s i ≤ 57

theorem IsDig.pl {s : ByteArray} (h : IsDig s) : Digits (pl s) := by
  intro j
  by_cases hj : j < s.size
  · rw [pl_at s j hj]
    have := h (s.size - 1 - j) (by omega)
    omega
  · rw [pl_off s j hj]
    omega

/-- the borrow that place j bears -/
def bor (x y : Nat → Int) : Nat → Int
  | 0 => 0
  | j + 1 => 1 - (x j + 10 - bor x y j - y j) / 10
/-- the difference's digit at place j -/
def dif (x y : Nat → Int) (j : Nat) : Int := (x j + 10 - bor x y j - y j) % 10

theorem bor_succ (x y : Nat → Int) (j : Nat) : bor x y (j + 1) = 1 - (x j + 10 - bor x y j - y j) / 10 := rfl

theorem bor_01 {x y : Nat → Int} (hx : Digits x) (hy : Digits y) (j : Nat) : 0 ≤ bor x y j ∧ bor x y j ≤ 1 := by
  induction j with
  | zero => exact ⟨by simp [bor], by simp [bor]⟩
  | succ j ih =>
    have h1 := hx j
    have h2 := hy j
    rw [bor_succ]
    omega

theorem dif_dig (x y : Nat → Int) : Digits (dif x y) := by
  intro j
  unfold dif
  omega

/-- adding back, at one place -/
theorem back (x y : Nat → Int) (j : Nat) : dif x y j + y j + bor x y j = x j + 10 * bor x y (j + 1) := by
  unfold dif
  rw [bor_succ]
  omega

/-- the sum at one place: its digit is x's, its carry the next borrow -/
theorem back_step {x y : Nat → Int} (hx : Digits x) (j : Nat) : (dif x y j + y j + bor x y j) % 10 = x j ∧ (dif x y j + y j + bor x y j) / 10 = bor x y (j + 1) := by
  have h := hx j
  rw [back]
  omega

/-- x - (x - y): the borrows are the same, the digits are y's -/
theorem bor_twice {x y z : Nat → Int} (hx : Digits x) (hy : Digits y) (n : Nat) (hz : ∀ j, j < n → z j = dif x y j) : ∀ j, j ≤ n → bor x z j = bor x y j := by
  intro j
  induction j with
  | zero => intro _; rfl
  | succ j ih =>
    intro hj
    have e := ih (by omega)
    have hb := back x y j
    have h1 := hx j
    have h2 := hy j
    rw [bor_succ x z, e, hz j (by omega)]
    omega

theorem dif_twice {x y z : Nat → Int} (hx : Digits x) (hy : Digits y) (n : Nat) (hz : ∀ j, j < n → z j = dif x y j) (j : Nat) (hj : j < n) : dif x z j = y j := by
  have e := bor_twice hx hy n hz j (by omega)
  have hb := back x y j
  have h1 := hx j
  have h2 := hy j
  unfold dif at *
  rw [e, hz j hj]
  omega

/-- what 'zzNotLess' finds where it answers true: x and y agree on the first i0 of n places, and there x is greater, or there is none. -/
def NotLess (n : Nat) (x y : Nat → Int) : Prop := ∃ i0, i0 ≤ n ∧ (∀ i, i < i0 → x (n - 1 - i) = y (n - 1 - i)) ∧ (i0 = n ∨ y (n - 1 - i0) < x (n - 1 - i0))

theorem bor_stays {x y : Nat → Int} (k : Nat) (h0 : bor x y k = 0) : ∀ m, (∀ j, k ≤ j → j < k + m → x j = y j) → bor x y (k + m) = 0 := by
  intro m
  induction m with
  | zero => intro _; exact h0
  | succ m ih =>
    intro h
    have e := ih (fun j h1 h2 => h j h1 (by omega))
    have hx := h (k + m) (by omega) (by omega)
    show bor x y ((k + m) + 1) = 0
    rw [bor_succ, e, hx]
    omega

theorem bor_top {x y : Nat → Int} (hx : Digits x) (hy : Digits y) (n : Nat) (h : NotLess n x y) : bor x y n = 0 := by
  obtain ⟨i0, hi, heq, hgt⟩ := h
  rcases hgt with rfl | hgt
  · have := bor_stays (x := x) (y := y) 0 rfl i0 (fun j _ hj => by
      have := heq (i0 - 1 - j) (by omega)
      rw [show i0 - 1 - (i0 - 1 - j) = j by omega] at this
      exact this)
    simpa using this
  · by_cases hn : i0 = n
    · subst hn
      have := bor_stays (x := x) (y := y) 0 rfl i0 (fun j _ hj => by
        have := heq (i0 - 1 - j) (by omega)
        rw [show i0 - 1 - (i0 - 1 - j) = j by omega] at this
        exact this)
      simpa using this
    · have hb := bor_01 hx hy (n - 1 - i0)
      have h1 := hx (n - 1 - i0)
      have h2 := hy (n - 1 - i0)
      have h0 : bor x y (n - 1 - i0 + 1) = 0 := by rw [bor_succ]; omega
      have := bor_stays (n - 1 - i0 + 1) h0 i0 (fun j h1 h2 => by
        have := heq (n - 1 - j) (by omega)
        rw [show n - 1 - (n - 1 - j) = j by omega] at this
        exact this)
      rw [show n - 1 - i0 + 1 + i0 = n by omega] at this
      exact this

end Go.Proofs.Qxb6605767a.Dig
