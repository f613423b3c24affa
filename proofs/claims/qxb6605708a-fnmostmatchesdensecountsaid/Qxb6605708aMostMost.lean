/-
  The walks of '(*regionIndex).most' (function 25) and 'ZZmost' (function 8).
-/
import Derived.Test.Qxb6605708aMostRange
import Derived.Deep.QuietTactic
import Derived.BigQuiet
namespace Go.Proofs.Qxb6605708a.Most
open Go.RowKit
set_option linter.unusedVariables false

/-- What is asked of the map: a look-up at an int32 hands back f's number, in whatever world that lies behind w. -/
def MapIs (w : World) (v : Value) (f : Nat → Int) : Prop :=
  ∀ w', Below w.heap.size w w' → ∀ x : Nat, x < 32768 → (Instr.lookup 24 v (.int .i32 x) false).run Try.prog w' = .ok (.int .i64 (f x)) w'

def mostSum (nw : Nat) (H A : Nat → Int) (g : Nat → Nat) : Int := sumTo nw (fun i => H (g i) + A (g i))
def addSum (na : Nat) (H M : Nat → Int) (o e : Nat → Nat) : Int := sumTo na (fun i => M (e i) + H (o (e i)))

theorem mostSum_succ (nw : Nat) (H A : Nat → Int) (g : Nat → Nat) : mostSum (nw + 1) H A g = mostSum nw H A g + (H (g nw) + A (g nw)) := rfl
theorem addSum_succ (na : Nat) (H M : Nat → Int) (o e : Nat → Nat) : addSum (na + 1) H M o e = addSum na H M o e + (M (e na) + H (o (e na))) := rfl

theorem most_step {k : Nat} {H A : Nat → Int} {g : Nat → Nat} {j : Nat} (hj : j = g k) : wrap64 (wrap64 (mostSum k H A g) + wrap64 (H j + A j)) = wrap64 (mostSum (k + 1) H A g) := by
  rw [wrap_add_l, wrap_add_r, mostSum_succ, hj]

theorem add_step {k : Nat} {S : Int} {H M : Nat → Int} {o e : Nat → Nat} {j l : Nat} (hj : j = e k) (hl : l = o j) : wrap64 (wrap64 (S + addSum k H M o e) + wrap64 (M j + H l)) = wrap64 (S + addSum (k + 1) H M o e) := by
  rw [wrap_add_l, wrap_add_r, addSum_succ, hl, hj, Int.add_assoc]

theorem draws (w : World) (q : Nat) : Below w.heap.size w (w.drewN q) := ⟨rfl, rfl, rfl, Nat.le_refl _, fun _ _ => rfl⟩
theorem wrap_zero : wrap64 0 = 0 := by unfold wrap64; omega
theorem wrap_add_zero (a : Int) : wrap64 a = wrap64 (a + 0) := by rw [Int.add_zero]

set_option maxHeartbeats 1000000 in
theorem most_any (bx bu bs : Nat) (a0 a1 a2 a4 a5 : Option Addr) (n0 c0 n1 c1 c2 n4 c4 n5 c5 : Nat) (H A M : Nat → Int) (o g e : Nat → Nat) (vm : Value) (w : World)
    (h0 : Row .i32 w a0 n0 (fun i => o i)) (h1 : Row .i64 w a1 n1 H) (h2 : Row .i64 w a2 n1 A) (h4 : Row .i32 w a4 n4 (fun i => g i)) (h5 : Row .i32 w a5 n5 (fun i => e i)) (hM : MapIs w vm M)
    (ro : ∀ i, i < n0 → o i < n1) (rg : ∀ i, i < n4 → g i < n1) (re : ∀ i, i < n5 → e i < n0)
    (m0 : n0 ≤ 32768) (m1 : n1 ≤ 32768) (m4 : n4 ≤ 16384) (m5 : n5 ≤ 16384)
    (x0 : w.cell? ⟨bx, 0, none⟩ = some (.pointer (some ⟨bu, 0, none⟩))) (x6 : w.cell? ⟨bx, 6, none⟩ = some (.slice a1 n1 c1)) (x7 : w.cell? ⟨bx, 7, none⟩ = some (.slice a2 n1 c2)) (x8 : w.cell? ⟨bx, 8, none⟩ = some vm)
    (u0 : w.cell? ⟨bu, 0, none⟩ = some (.slice a0 n0 c0)) (s0 : w.cell? ⟨bs, 0, none⟩ = some (.slice a4 n4 c4)) (s3 : w.cell? ⟨bs, 3, none⟩ = some (.slice a5 n5 c5)) :
    Calls Try.prog 25 #[.pointer (some ⟨bx, 0, none⟩), .pointer (some ⟨bs, 0, none⟩)] w fun r w' => r = .returned (.int .i64 (wrap64 (mostSum n4 H A g + addSum n5 H M o e))) ∧ ∃ q, w' = w.drewN q := by
  go_enter Try.func25, Try.ntmps25
  go_wp2
  go_loopw [5, 15] (fun n i wr => ∃ k : Nat, k ≤ n4 ∧ i = .int .i64 k ∧ n = .int .i64 (wrap64 (mostSum k H A g)) ∧ ∃ q, wr = w.drewN q) (fun _ i _ => n4 - (intOf i).toNat)
  case atStart => exact ⟨0, Nat.zero_le _, rfl, by simp [mostSum, sumTo, wrap_zero], 0, rfl⟩
  case round =>
    obtain ⟨k, hk, rfl, rfl, q, rfl⟩ := hrel
    by_cases hlt : k < n4
    · obtain ⟨b, off, rfl, hc⟩ := h4 k hlt
      have hj := rg k hlt
      obtain ⟨j, hjg⟩ : ∃ j, j = g k := ⟨_, rfl⟩
      simp only [← hjg] at hc hj
      obtain ⟨b1, off1, rfl, hc1⟩ := h1 j hj
      obtain ⟨b2, off2, rfl, hc2⟩ := h2 j hj
      have HJ : Hid (j = g k) := hjg
      clear hjg
      go_wp2_with fail
      go_quiet (fail)
      go_wp2
      go_roundw
      case rel => exact ⟨k + 1, by omega, by go_num, by rw [most_step HJ.out], _, rfl⟩
      case measure => simp [intOf]; omega
    · obtain rfl : k = n4 := by omega
      go_wp2
      go_loopw [5, 42] (fun n i wr => ∃ l : Nat, l ≤ n5 ∧ i = .int .i64 l ∧ n = .int .i64 (wrap64 (mostSum k H A g + addSum l H M o e)) ∧ ∃ q, wr = w.drewN q) (fun _ i _ => n5 - (intOf i).toNat)
      case atStart => exact ⟨0, Nat.zero_le _, rfl, by rw [wrap_add_zero]; rfl, _, rfl⟩
      case round =>
        obtain ⟨l, hl, rfl, rfl, q', rfl⟩ := hrel
        by_cases hlt : l < n5
        · obtain ⟨b, off, rfl, hc⟩ := h5 l hlt
          have hj := re l hlt
          obtain ⟨j, hjg⟩ : ∃ j, j = e l := ⟨_, rfl⟩
          simp only [← hjg] at hc hj
          obtain ⟨b0, off0, rfl, hc0⟩ := h0 j hj
          have hi := ro j hj
          obtain ⟨i, hio⟩ : ∃ i, i = o j := ⟨_, rfl⟩
          simp only [← hio] at hc0 hi
          obtain ⟨b1, off1, rfl, hc1⟩ := h1 i hi
          have hlook : ∀ q, (Instr.lookup 24 vm (.int .i32 j) false).run Try.prog (w.drewN q) = .ok (.int .i64 (M j)) (w.drewN q) := fun q => hM _ (draws w q) j (by omega)
          have HJ : Hid (j = e l) := hjg
          have HO : Hid (i = o j) := hio
          clear hjg hio
          go_wp2_with fail
          go_quiet (fail)
          go_wp2
          go_roundw
          case rel => exact ⟨l + 1, by omega, by go_num, by rw [add_step HJ.out HO.out], _, rfl⟩
          case measure => simp [intOf]; omega
        · obtain rfl : l = n5 := by omega
          go_wp2
          go_ret
          exact ⟨rfl, _, rfl⟩

theorem MapIs.below {w w' : World} {v : Value} {f : Nat → Int} (h : MapIs w v f) (hb : Below w.heap.size w w') : MapIs w' v f := fun w'' hb' x hx => h w'' (hb.trans (hb'.mono hb.size)) x hx

set_option maxHeartbeats 1000000 in
theorem zzmost_any (a0 a1 a2 a4 a5 : Option Addr) (n0 c0 n1 c1 c2 n4 c4 n5 c5 : Nat) (H A M : Nat → Int) (o g e : Nat → Nat) (bm : Option Nat) (w : World)
    (h0 : Row .i32 w a0 n0 (fun i => o i)) (h1 : Row .i64 w a1 n1 H) (h2 : Row .i64 w a2 n1 A) (h4 : Row .i32 w a4 n4 (fun i => g i)) (h5 : Row .i32 w a5 n5 (fun i => e i)) (hM : MapIs w (.map bm) M)
    (ro : ∀ i, i < n0 → o i < n1) (rg : ∀ i, i < n4 → g i < n1) (re : ∀ i, i < n5 → e i < n0)
    (m0 : n0 ≤ 32768) (m1 : n1 ≤ 32768) (m4 : n4 ≤ 16384) (m5 : n5 ≤ 16384) :
    Calls Try.prog 8 #[.slice a0 n0 c0, .slice a1 n1 c1, .slice a2 n1 c2, .map bm, .slice a4 n4 c4, .slice a5 n5 c5] w fun r w' => r = .returned (.int .i64 (wrap64 (mostSum n4 H A g + addSum n5 H M o e))) ∧ Below w.heap.size w w' := by
  have hb3 : ∀ o1 o2 o3, Below w.heap.size w (((w.alloc o1).alloc o2).alloc o3) := fun o1 o2 o3 => (((Below.refl _ _).alloc (Nat.le_refl _) _).alloc (by simp) _).alloc (by simp; omega) _
  go_enter Try.func8, Try.ntmps8
  go_wp2_with fail
  refine (most_any (w.heap.size + 1) w.heap.size (w.heap.size + 1 + 1) a0 a1 a2 a4 a5 n0 c0 n1 c1 c2 n4 c4 n5 c5 H A M o g e (.map bm) _ (h0.below (hb3 _ _ _)) (h1.below (hb3 _ _ _)) (h2.below (hb3 _ _ _)) (h4.below (hb3 _ _ _)) (h5.below (hb3 _ _ _)) (hM.below (hb3 _ _ _)) ro rg re m0 m1 m4 m5 ?_ ?_ ?_ ?_ ?_ ?_ ?_).mono ?_
  case refine_8 =>
    rintro r w' ⟨rfl, q, rfl⟩
    go_wp2
    go_ret
    exact ⟨rfl, (hb3 _ _ _).trans ((draws _ q).mono (by simp; omega))⟩
  all_goals simp [go_sem]
end Go.Proofs.Qxb6605708a.Most
