/-
  The walk of 'mostModel' (function 9): the dense tallies, and their dot product with the counts.
-/
import Derived.Test.Qxb6605708aMostMost
import Derived.Deep.OwnRows
namespace Go.Proofs.Qxb6605708a.Most
open Go.RowKit
set_option linter.unusedVariables false

theorem info3 : (Try.prog.info? 3).map (fun i => (i.zero, i.size, i.bytes)) = some (some (.int .i64 0), 1, 8) := by kernel_rfl

/-- The three tallies in the call's own memory; below them nothing has turned. -/
structure Inv (w wr : World) (n1 n0 : Nat) (t0 t1 t2 : Nat → Nat) : Prop where
  below : Below w.heap.size w wr
  r0 : wr.rowIs w.heap.size 3 n1 (fun j => .int .i64 (t0 j))
  r1 : wr.rowIs (w.heap.size + 1) 3 n1 (fun j => .int .i64 (t1 j))
  r2 : wr.rowIs (w.heap.size + 1 + 1) 3 n0 (fun j => .int .i64 (t2 j))

theorem Inv.drewN {w wr : World} {n1 n0 : Nat} {t0 t1 t2 : Nat → Nat} (h : Inv w wr n1 n0 t0 t1 t2) (q : Nat) : Inv w (wr.drewN q) n1 n0 t0 t1 t2 :=
  ⟨h.below.trans ⟨rfl, rfl, rfl, Nat.le_refl _, fun _ _ => rfl⟩, h.r0, h.r1, h.r2⟩

theorem inv_start (w : World) (n1 n0 : Nat) : Inv w (((w.alloc (.cells (madeCells #[.int .i64 0] n1) 3)).alloc (.cells (madeCells #[.int .i64 0] n1) 3)).alloc (.cells (madeCells #[.int .i64 0] n0) 3)) n1 n0 (fun _ => 0) (fun _ => 0) (fun _ => 0) := by
  refine ⟨(((Below.refl _ _).alloc (Nat.le_refl _) _).alloc (by simp) _).alloc (by simp; omega) _, ?_, ?_, ?_⟩
  · exact ((World.rowIs_made w (.int .i64 0) n1 3).alloc _).alloc _
  · have := (World.rowIs_made (w.alloc (.cells (madeCells #[.int .i64 0] n1) 3)) (.int .i64 0) n1 3).alloc (.cells (madeCells #[.int .i64 0] n0) 3)
    simpa using this
  · have := World.rowIs_made ((w.alloc (.cells (madeCells #[.int .i64 0] n1) 3)).alloc (.cells (madeCells #[.int .i64 0] n1) 3)) (.int .i64 0) n0 3
    simpa using this

/-- one more in the first tally -/
theorem Inv.step0 {w wr : World} {n1 n0 : Nat} {t1 t2 : Nat → Nat} {k : Nat} {g : Nat → Nat} {j : Nat} (h : Inv w wr n1 n0 (cnt k g) t1 t2) (hj : j = g k) :
    Inv w (wr.setCell ⟨w.heap.size, j, none⟩ (.int .i64 ((cnt k g j : Int) + 1))) n1 n0 (cnt (k + 1) g) t1 t2 := by
  refine ⟨h.below.setCell (Nat.le_refl _) _, (h.r0.set j _).congr fun i _ => ?_, h.r1.setOther (by simp) _, h.r2.setOther (by simp; omega) _⟩
  rw [cnt_succ, ← hj]
  by_cases e : i = j
  · subst e; simp
  · rw [if_neg e, if_neg (fun h => e h.symm)]; simp

/-- one more in the third tally, and one more in the second -/
theorem Inv.step12 {w wr : World} {n1 n0 : Nat} {t0 : Nat → Nat} {k : Nat} {o e : Nat → Nat} {j l : Nat} (h : Inv w wr n1 n0 t0 (cnt k (fun i => o (e i))) (cnt k e)) (hj : j = e k) (hl : l = o j) :
    Inv w ((wr.setCell ⟨w.heap.size + 1 + 1, j, none⟩ (.int .i64 ((cnt k e j : Int) + 1))).setCell ⟨w.heap.size + 1, l, none⟩ (.int .i64 ((cnt k (fun i => o (e i)) l : Int) + 1))) n1 n0 t0 (cnt (k + 1) (fun i => o (e i))) (cnt (k + 1) e) := by
  refine ⟨(h.below.setCell (by simp; omega) _).setCell (by simp) _, (h.r0.setOther (by simp; omega) _).setOther (by simp) _, ((h.r1.setOther (by simp) _).set l _).congr fun i _ => ?_, ((h.r2.set j _).setOther (by simp) _).congr fun i _ => ?_⟩
  · rw [cnt_succ, ← hj, ← hl]
    by_cases e : i = l
    · subst e; simp
    · rw [if_neg e, if_neg (fun h => e h.symm)]; simp
  · rw [cnt_succ, ← hj]
    by_cases e : i = j
    · subst e; simp
    · rw [if_neg e, if_neg (fun h => e h.symm)]; simp

def regSum (n : Nat) (H A : Nat → Int) (t0 t1 : Nat → Nat) : Int := sumTo n (fun r => (t0 r : Int) * (H r + A r) + (t1 r : Int) * H r)
def elSum (n : Nat) (M : Nat → Int) (t2 : Nat → Nat) : Int := sumTo n (fun x => (t2 x : Int) * M x)

theorem reg_step {n : Nat} {H A : Nat → Int} {t0 t1 : Nat → Nat} : wrap64 (wrap64 (regSum n H A t0 t1) + wrap64 (wrap64 ((t0 n : Int) * wrap64 (H n + A n)) + wrap64 ((t1 n : Int) * H n))) = wrap64 (regSum (n + 1) H A t0 t1) := by
  have inner : ∀ X Y : Int, wrap64 (wrap64 X + wrap64 Y) = wrap64 (X + Y) := fun X Y => by rw [wrap_add_l, wrap_add_r]
  rw [wrap_mul_r, inner ((t0 n : Int) * (H n + A n)) ((t1 n : Int) * H n), inner]
  rfl

theorem el_step {n : Nat} {S : Int} {M : Nat → Int} {t2 : Nat → Nat} : wrap64 (wrap64 (S + elSum n M t2) + wrap64 ((t2 n : Int) * M n)) = wrap64 (S + elSum (n + 1) M t2) := by
  rw [wrap_add_l, wrap_add_r, Int.add_assoc]
  rfl

theorem el_skip {n : Nat} {S : Int} {M : Nat → Int} {t2 : Nat → Nat} (h : t2 n = 0) : wrap64 (S + elSum n M t2) = wrap64 (S + elSum (n + 1) M t2) := by
  have : elSum (n + 1) M t2 = elSum n M t2 + (t2 n : Int) * M n := rfl
  rw [this, h]
  simp

theorem Row.at {k : IntKind} {w wr : World} {a : Option Addr} {n : Nat} {f : Nat → Int} (h : Row k w a n f) (hb : Below w.heap.size w wr) {i : Nat} (hi : i < n) :
    ∃ b off, a = some ⟨b, off, none⟩ ∧ b < w.heap.size ∧ wr.cell? ⟨b, off + i, none⟩ = some (.int k (f i)) := by
  obtain ⟨b, off, ha, hc⟩ := h i hi
  have hl := World.block_lt_of_cell? w _ hc
  exact ⟨b, off, ha, hl, (hb.cell hl).trans hc⟩

set_option maxHeartbeats 2000000 in
theorem model_any (a0 a1 a2 a4 a5 : Option Addr) (n0 c0 n1 c1 c2 n4 c4 n5 c5 : Nat) (H A M : Nat → Int) (o g e : Nat → Nat) (bm : Option Nat) (w : World)
    (h0 : Row .i32 w a0 n0 (fun i => o i)) (h1 : Row .i64 w a1 n1 H) (h2 : Row .i64 w a2 n1 A) (h4 : Row .i32 w a4 n4 (fun i => g i)) (h5 : Row .i32 w a5 n5 (fun i => e i)) (hM : MapIs w (.map bm) M)
    (ro : ∀ i, i < n0 → o i < n1) (rg : ∀ i, i < n4 → g i < n1) (re : ∀ i, i < n5 → e i < n0)
    (m0 : n0 ≤ 32768) (m1 : n1 ≤ 32768) (m4 : n4 ≤ 16384) (m5 : n5 ≤ 16384) :
    Calls Try.prog 9 #[.slice a0 n0 c0, .slice a1 n1 c1, .slice a2 n1 c2, .map bm, .slice a4 n4 c4, .slice a5 n5 c5] w fun r w' => r = .returned (.int .i64 (wrap64 (regSum n1 H A (cnt n4 g) (cnt n5 (fun i => o (e i))) + elSum n0 M (cnt n5 e)))) ∧ Below w.heap.size w w' := by
  have hmk1 := run_make_row' (P := Try.prog) 23 3 (.int .i64 0) 8 Try.underlying23 info3 rfl .i64 .i64 n1 (by omega) (by omega)
  have hmk0 := run_make_row' (P := Try.prog) 23 3 (.int .i64 0) 8 Try.underlying23 info3 rfl .i64 .i64 n0 (by omega) (by omega)
  go_enter Try.func9, Try.ntmps9
  go_wp2
  clear hmk1 hmk0
  go_loopw [17] (fun i wr => ∃ k : Nat, k ≤ n4 ∧ i = .int .i64 k ∧ Inv w wr n1 n0 (cnt k g) (fun _ => 0) (fun _ => 0)) (fun i _ => n4 - (intOf i).toNat)
  case atStart => exact ⟨0, Nat.zero_le _, rfl, inv_start w n1 n0⟩
  case round =>
    obtain ⟨k, hk, rfl, hI⟩ := hrel
    by_cases hlt : k < n4
    · obtain ⟨b, off, rfl, hc⟩ := (h4.below hI.below) k hlt
      have hj := rg k hlt
      obtain ⟨j, hjg⟩ : ∃ j, j = g k := ⟨_, rfl⟩
      simp only [← hjg] at hc hj
      have hcell := hI.r0.cell hj
      have hfr := hI.r0.frozen j
      have hle := cnt_le k g j
      have HJ : Hid (j = g k) := hjg
      clear hjg
      go_wp2
      go_roundw
      case rel => exact ⟨k + 1, by omega, by go_num, hI.step0 HJ.out⟩
      case measure => simp [intOf]; omega
    · obtain rfl : k = n4 := by omega
      go_wp2
      go_loopw [18] (fun i wr => ∃ l : Nat, l ≤ n5 ∧ i = .int .i64 l ∧ Inv w wr n1 n0 (cnt k g) (cnt l (fun i => o (e i))) (cnt l e)) (fun i _ => n5 - (intOf i).toNat)
      case atStart => exact ⟨0, Nat.zero_le _, rfl, hI⟩
      case round =>
        clear hI
        obtain ⟨l, hl, rfl, hI⟩ := hrel
        by_cases hlt : l < n5
        · obtain ⟨b, off, rfl, hc⟩ := (h5.below hI.below) l hlt
          have hj := re l hlt
          obtain ⟨j, hjg⟩ : ∃ j, j = e l := ⟨_, rfl⟩
          simp only [← hjg] at hc hj
          obtain ⟨b0, off0, rfl, hb0, hc0⟩ := h0.at hI.below hj
          have hi := ro j hj
          obtain ⟨i, hio⟩ : ∃ i, i = o j := ⟨_, rfl⟩
          simp only [← hio] at hc0 hi
          have hcell := hI.r2.cell hj
          have hfr := hI.r2.frozen j
          have hle := cnt_le l e j
          have hcell1 := hI.r1.cell hi
          have hfr1 := hI.r1.frozen i
          have hle1 := cnt_le l (fun i => o (e i)) i
          have HJ : Hid (j = e l) := hjg
          have HO : Hid (i = o j) := hio
          clear hjg hio
          go_wp2
          go_roundw
          case rel => exact ⟨l + 1, by omega, by go_num, hI.step12 HJ.out HO.out⟩
          case measure => simp [intOf]; omega
        · obtain rfl : l = n5 := by omega
          go_wp2
          go_loopw [20, 21] (fun v i wr => ∃ r : Nat, r ≤ n1 ∧ i = .int .i64 r ∧ v = .int .i64 (wrap64 (regSum r H A (cnt k g) (cnt l (fun i => o (e i))))) ∧ Inv w wr n1 n0 (cnt k g) (cnt l (fun i => o (e i))) (cnt l e)) (fun _ i _ => n1 - (intOf i).toNat)
          case atStart => exact ⟨0, Nat.zero_le _, rfl, by simp [regSum, sumTo, wrap_zero], hI⟩
          case round =>
            clear hI
            obtain ⟨r, hr, rfl, rfl, hI⟩ := hrel
            by_cases hlt : r < n1
            · obtain ⟨b1, off1, rfl, hb1, hc1⟩ := h1.at hI.below hlt
              obtain ⟨b2, off2, rfl, hb2, hc2⟩ := h2.at hI.below hlt
              have ht0 := hI.r0.cell hlt
              have ht1 := hI.r1.cell hlt
              go_wp2_with fail
              go_quiet (fail)
              go_wp2
              go_roundw
              case rel => exact ⟨r + 1, by omega, by go_num, by rw [reg_step], hI.drewN _⟩
              case measure => simp [intOf]; omega
            · obtain rfl : r = n1 := by omega
              go_wp2
              go_loopw [20, 22] (fun v i wr => ∃ x : Nat, x ≤ n0 ∧ i = .int .i64 x ∧ v = .int .i64 (wrap64 (regSum r H A (cnt k g) (cnt l (fun i => o (e i))) + elSum x M (cnt l e))) ∧ Inv w wr r n0 (cnt k g) (cnt l (fun i => o (e i))) (cnt l e)) (fun _ i _ => n0 - (intOf i).toNat)
              case atStart => exact ⟨0, Nat.zero_le _, rfl, by rw [wrap_add_zero]; rfl, hI⟩
              case round =>
                clear hI
                obtain ⟨x, hx, rfl, rfl, hI⟩ := hrel
                by_cases hlt : x < n0
                · have ht2 := hI.r2.cell hlt
                  by_cases hz : cnt l e x = 0
                  · have hz' : (((cnt l e x : Nat) : Int) != 0) = false := by simp [hz]
                    have HZ : Hid (cnt l e x = 0) := hz
                    clear hz
                    go_wp2
                    go_roundw
                    case rel => exact ⟨x + 1, by omega, by go_num, by rw [el_skip HZ.out], hI⟩
                    case measure => simp [intOf]; omega
                  · have hz' : (((cnt l e x : Nat) : Int) != 0) = true := by simp [hz]
                    clear hz
                    have hlook : ∀ q, (Instr.lookup 24 (.map bm) (.int .i32 x) false).run Try.prog (wr.drewN q) = .ok (.int .i64 (M x)) (wr.drewN q) := fun q => hM _ (hI.below.trans ((draws wr q).mono hI.below.size)) x (by omega)
                    go_wp2_with fail
                    go_quiet (fail)
                    go_wp2
                    go_roundw
                    case rel => exact ⟨x + 1, by omega, by go_num, by rw [el_step], hI.drewN _⟩
                    case measure => simp [intOf]; omega
                · obtain rfl : x = n0 := by omega
                  go_wp2
                  go_ret
                  exact ⟨rfl, hI.below⟩
end Go.Proofs.Qxb6605708a.Most
