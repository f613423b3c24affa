/-
  The walk of the law 'FnMostMatchesDenseCount' (function 3), out of its callees' contracts.
-/
import Derived.Test.Qxb6605708aMostModel
namespace Go.Proofs.Qxb6605708a.Most
open Go.RowKit
set_option linter.unusedVariables false

/-- 'len' of the map: L, in whatever world that lies behind w. -/
def LenIs (w : World) (v : Value) (L : Nat) : Prop := ∀ ty, (Builtin.len_ #[24] ty #[v]).run Try.prog w = .ok (.int .i64 L) w

theorem Row.toNat {k : IntKind} {w : World} {a : Option Addr} {n : Nat} {f : Nat → Int} (h : Row k w a n f) (h0 : ∀ i, i < n → 0 ≤ f i) : Row k w a n (fun i => ((f i).toNat : Int)) := by
  intro i hi
  obtain ⟨b, off, ha, hc⟩ := h i hi
  exact ⟨b, off, ha, by show _ = some (Value.int k ((f i).toNat : Int)); rw [Int.toNat_of_nonneg (h0 i hi)]; exact hc⟩

set_option maxHeartbeats 1000000 in
theorem law_any (a0 a1 a2 a4 a5 : Option Addr) (n0 c0 n1 c1 n2 c2 n4 c4 n5 c5 : Nat) (f0 f4 f5 H A : Nat → Int) (M : Nat → Int) (bm : Option Nat) (L : Nat) (w : World)
    (h0 : Row .i32 w a0 n0 f0) (h1 : Row .i64 w a1 n1 H) (h2 : Row .i64 w a2 n2 A) (h4 : Row .i32 w a4 n4 f4) (h5 : Row .i32 w a5 n5 f5) (b0 : In32 n0 f0) (b4 : In32 n4 f4) (b5 : In32 n5 f5)
    (hM : MapIs w (.map bm) M) (hL : LenIs w (.map bm) L) :
    Calls Try.prog 3 #[.slice a0 n0 c0, .slice a1 n1 c1, .slice a2 n2 c2, .map bm, .slice a4 n4 c4, .slice a5 n5 c5] w fun r w' => r = .returned (.bool true) ∧ Below w.heap.size w w' := by
  have hl : ∀ ty, (Builtin.len_ #[24] ty #[.map bm]).run Try.prog w = .ok (.int .i64 L) w := hL
  clear hL
  go_enter Try.func3, Try.ntmps3
  go_wp2_with fail
  all_goals first | (go_ret; exact ⟨rfl, Below.refl _ _⟩) | skip
  have m0 : n0 ≤ 32768 := by omega
  have m1 : n1 ≤ 32768 := by omega
  have m2 : n2 ≤ 32768 := by omega
  have m4 : n4 ≤ 16384 := by omega
  have m5 : n5 ≤ 16384 := by omega
  refine (inRange_any a0 a1 a2 a4 a5 n0 c0 n1 c1 n2 c2 n4 c4 n5 c5 f0 f4 f5 w h0 h4 h5 b0 b4 b5 m0 m1 m2 m4 m5).mono ?_
  rintro e w' ⟨r, rfl, rfl, hr⟩
  cases r with
  | false =>
    clear hr
    go_wp2
    go_ret
    exact ⟨rfl, Below.refl _ _⟩
  | true =>
    have hR := hr rfl
    clear hr
    obtain rfl := hR.same
    go_wp2_with fail
    refine (zzmost_any a0 a1 a2 a4 a5 n0 c0 _ c1 c2 n4 c4 n5 c5 H A M (fun i => (f0 i).toNat) (fun i => (f4 i).toNat) (fun i => (f5 i).toNat) bm _ (h0.toNat fun i hi => (hR.of i hi).1) h1 h2 (h4.toNat fun i hi => (hR.whole i hi).1) (h5.toNat fun i hi => (hR.added i hi).1) hM
      (fun i hi => by have := hR.of i hi; omega) (fun i hi => by have := hR.whole i hi; omega) (fun i hi => by have := hR.added i hi; omega) m0 m1 m4 m5).mono ?_
    rintro e w1 ⟨rfl, hb1⟩
    go_wp2_with fail
    refine (model_any a0 a1 a2 a4 a5 n0 c0 _ c1 c2 n4 c4 n5 c5 H A M (fun i => (f0 i).toNat) (fun i => (f4 i).toNat) (fun i => (f5 i).toNat) bm _ ((h0.toNat fun i hi => (hR.of i hi).1).below hb1) (h1.below hb1) (h2.below hb1) ((h4.toNat fun i hi => (hR.whole i hi).1).below hb1) ((h5.toNat fun i hi => (hR.added i hi).1).below hb1) (hM.below hb1)
      (fun i hi => by have := hR.of i hi; omega) (fun i hi => by have := hR.whole i hi; omega) (fun i hi => by have := hR.added i hi; omega) m0 m1 m4 m5).mono ?_
    rintro e w2 ⟨rfl, hb2⟩
    have hlaw := law n2 n0 n4 n5 H A M (fun i => (f0 i).toNat) (fun i => (f4 i).toNat) (fun i => (f5 i).toNat) (fun i hi => by have := hR.whole i hi; omega) (fun i hi => by have := hR.added i hi; omega) (fun i hi => by have := hR.of i hi; omega)
    have HL : Hid (mostSum n4 H A (fun i => (f4 i).toNat) + addSum n5 H M (fun i => (f0 i).toNat) (fun i => (f5 i).toNat) = regSum n2 H A (cnt n4 (fun i => (f4 i).toNat)) (cnt n5 (fun i => (f0 ((f5 i).toNat)).toNat)) + elSum n0 M (cnt n5 (fun i => (f5 i).toNat))) := hlaw
    clear hlaw
    go_wp2
    go_ret
    exact ⟨by rw [HL.out]; simp, hb1.trans (hb2.mono hb1.size)⟩

end Go.Proofs.Qxb6605708a.Most
