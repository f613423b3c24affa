/-
  ZZnewActionUniverse (14).
-/
import Derived.Test.Qxb6605708aUniAcc
import Derived.BigRegion
namespace Go.Proofs.Qxb6605708a.Uni
open Go.RowKit
set_option linter.unusedVariables false

theorem info63 : (Try.prog.info? 63).map (fun i => (i.zero, i.size, i.bytes)) = some (some (.agg #[.bool false, .slice none 0 0]), 2, 32) := by kernel_rfl

theorem make63 (n : Nat) (hn : n ≤ 4096) (w : World) : (Instr.makeSlice 61 (.int .i64 (n : Int)) (.int .i64 (n : Int))).run Try.prog w = .ok (.slice (some ⟨w.heap.size, 0, none⟩) n n) (w.alloc (.cells (madeCells #[.bool false, .slice none 0 0] (n * 2)) 63)) := by
  obtain ⟨i, hi, hz, hs, hb⟩ := info_parts info63
  have h := run_make (P := Try.prog) w 61 63 i _ Try.underlying61 hi hz .i64 .i64 n n (by omega) (Int.le_refl _) (by rw [hb]; omega) (by omega)
  rw [hs] at h
  exact h

/-- the cells of the lists behind k rounds -/
def listCell (E : Nat → Bool) (V : Nat → Value) (k c : Nat) : Value := if c % 2 = 0 then .bool (if c / 2 < k then E (c / 2) else false) else if c / 2 < k then V (c / 2) else .slice none 0 0

structure ZInv (w : World) (n : Nat) (E : Nat → Bool) (V : Nat → Value) (k : Nat) (wr : World) : Prop where
  bel : Below w.heap.size w wr
  row : wr.rowIs w.heap.size 63 (n * 2) (listCell E V k)

theorem zinv_start (w : World) (n : Nat) (E : Nat → Bool) (V : Nat → Value) : ZInv w n E V 0 (w.alloc (.cells (madeCells #[.bool false, .slice none 0 0] (n * 2)) 63)) := by
  refine ⟨(Below.refl _ _).alloc (Nat.le_refl _) _, _, heap_alloc_new w _, size_madeCells _ _, fun i hi => ?_⟩
  unfold listCell madeCells
  by_cases h : i % 2 = 0
  · simp [hi, h]
  · have h1 : i % 2 = 1 := by omega
    simp [hi, h1]

theorem ZInv.step {w wr : World} {n : Nat} {E : Nat → Bool} {V : Nat → Value} {k : Nat} {ev : Bool} {v : Value} (h : ZInv w n E V k wr) (he : E k = ev) (hv : V k = v) :
    ZInv w n E V (k + 1) ((wr.setCell ⟨w.heap.size, k * 2, none⟩ (.bool ev)).setCell ⟨w.heap.size, k * 2 + 1, none⟩ v) := by
  refine ⟨(h.bel.setCell (Nat.le_refl _) _).setCell (Nat.le_refl _) _, ((h.row.set (k * 2) _).set (k * 2 + 1) _).congr fun i hi => ?_⟩
  by_cases e1 : i = k * 2 + 1
  · rw [if_pos e1]
    subst e1
    unfold listCell
    rw [if_neg (by omega), if_pos (by omega), show (k * 2 + 1) / 2 = k by omega, hv]
  · rw [if_neg e1]
    by_cases e0 : i = k * 2
    · rw [if_pos e0]
      subst e0
      unfold listCell
      rw [if_pos (by omega), if_pos (by omega), show k * 2 / 2 = k by omega, he]
    · rw [if_neg e0]
      unfold listCell
      by_cases hl : i / 2 < k
      · have hl' : i / 2 < k + 1 := by omega
        simp only [hl, hl', if_true]
      · have hl' : ¬ i / 2 < k + 1 := by omega
        simp only [hl, hl', if_false]

theorem ZInv.drew {w wr : World} {n : Nat} {E : Nat → Bool} {V : Nat → Value} {k : Nat} (h : ZInv w n E V k wr) : ZInv w n E V k wr.drew := ⟨h.bel.drew, h.row⟩

theorem ZInv.lists {w wr : World} {n : Nat} {E : Nat → Bool} {N : Nat → List Str} {V : Nat → Value} (h : ZInv w n E V n wr) (hI : ∀ i, i < n → ∃ ai ci, V i = .slice ai (N i).length ci ∧ CapOk ai (N i).length ci ∧ Strs w ai (N i)) : Lists wr w.heap.size 0 n E N := by
  intro i hi
  obtain ⟨ai, ci, hv, hcap, hs⟩ := hI i hi
  refine ⟨?_, ai, ci, ?_, hcap, hs.below h.bel⟩
  · rw [Nat.zero_add, h.row.cell (show i * 2 < n * 2 by omega)]
    unfold listCell
    rw [if_pos (by omega), show i * 2 / 2 = i by omega, if_pos hi]
  · rw [Nat.zero_add, h.row.cell (show i * 2 + 1 < n * 2 by omega)]
    unfold listCell
    rw [if_neg (by omega), show (i * 2 + 1) / 2 = i by omega, if_pos hi, hv]

set_option maxHeartbeats 2000000 in
theorem zz_any (a0 a1 : Option Addr) (n c0 c1 : Nat) (E : Nat → Bool) (N : Nat → List Str) (V : Nat → Value) (w : World) (hE : Bools w a0 n E) (hV : ∀ i, i < n → ∃ b off, a1 = some ⟨b, off, none⟩ ∧ w.cell? ⟨b, off + i, none⟩ = some (V i))
    (hI : ∀ i, i < n → ∃ ai ci, V i = .slice ai (N i).length ci ∧ CapOk ai (N i).length ci ∧ Strs w ai (N i)) (hn : n ≤ 4096) (ht : tot N n ≤ 4096) (hby : byt N n ≤ 1048576) (U : List Str) (HU : Hid (uni (flat N n) = U)) (K : Nat → Str) (HK : Hid (∀ i, K i = key (E i) (N i))) :
    Calls Try.prog 14 #[.slice a0 n c0, .slice a1 n c1] w fun e w' => ∃ bu, e = .returned (.pointer (some ⟨bu, 0, none⟩)) ∧ IsUniv w' bu U E N K n ∧ Below w.heap.size w w' := by
  have hmk := make63 n hn
  go_enter Try.func14, Try.ntmps14
  go_wp2
  clear hmk
  go_loopw [12] (fun i wr => ∃ k : Nat, k ≤ n ∧ i = .int .i64 k ∧ ZInv w n E V k wr) (fun i _ => n - (intOf i).toNat)
  case atStart => exact ⟨0, Nat.zero_le _, rfl, zinv_start w n E V⟩
  case round =>
    obtain ⟨k, hk, rfl, hZ⟩ := hrel
    by_cases hlt : k < n
    · obtain ⟨b0, o0, rfl, h0⟩ := hE k hlt
      obtain ⟨b1, o1, rfl, h1⟩ := hV k hlt
      obtain ⟨ai, ci, hv, hcap, hs⟩ := hI k hlt
      rw [hv] at h1
      have hb0 := World.block_lt_of_cell? w _ h0
      have hb1 := World.block_lt_of_cell? w _ h1
      dsimp only at hb0 hb1
      have d0 := cell_below hZ.bel h0
      have d1 := cell_below hZ.bel h1
      have r0 : wr.cell? ⟨w.heap.size, k * 2, none⟩ = some (.bool false) := by rw [hZ.row.cell (show k * 2 < n * 2 by omega)]; unfold listCell; simp
      have r1 : wr.cell? ⟨w.heap.size, k * 2 + 1, none⟩ = some (.slice none 0 0) := by rw [hZ.row.cell (show k * 2 + 1 < n * 2 by omega)]; unfold listCell; rw [if_neg (by omega), if_neg (by omega)]
      have f0 := hZ.row.frozen (k * 2)
      have f1 := hZ.row.frozen (k * 2 + 1)
      have HV : Hid (V k = .slice ai (N k).length ci) := hv
      clear hv h0 h1
      obtain ⟨ev, hev⟩ : ∃ ev, E k = ev := ⟨_, rfl⟩
      rw [hev] at d0
      have HE : Hid (E k = ev) := hev
      clear hev
      obtain ⟨m, hm⟩ : ∃ m, (N k).length = m := ⟨_, rfl⟩
      rw [hm] at d1 HV
      clear hm
      go_wp2_with fail
      go_region
      go_wp2
      go_roundw
      case rel => exact ⟨k + 1, by omega, by go_num, (hZ.step HE.out HV.out).drew⟩
      case measure => simp [intOf]; omega
    · obtain rfl : k = n := by omega
      go_wp2_with fail
      refine (new_any w.heap.size 0 k k E N U HU K HK wr (hZ.lists hI) hn ht hby).mono ?_
      rintro e w' ⟨p, av, rfl, hL⟩
      go_wp2
      go_ret
      exact ⟨_, rfl, ⟨wr, p, av, rfl, hL⟩, hZ.bel.trans (hL.below.mono hZ.bel.size)⟩
end Go.Proofs.Qxb6605708a.Uni
