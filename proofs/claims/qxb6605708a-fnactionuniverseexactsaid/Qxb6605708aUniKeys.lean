/-
  listKeys (13): the keys of the lists, in a row of its own.
-/
import Derived.Test.Qxb6605708aUniRev
import Derived.Deep.DeepCutAuto
import Derived.Deep.RegionWith
namespace Go.Proofs.Qxb6605708a.Uni
open Go.RowKit
set_option linter.unusedVariables false

theorem info9k : (Try.prog.info? 9).map (fun i => (i.zero, i.size, i.bytes)) = some (some (.string ⟨#[]⟩), 1, 16) := by kernel_rfl

structure KInv (w : World) (n : Nat) (K : Nat → Str) (k : Nat) (wr : World) : Prop where
  bel : Below w.heap.size w wr
  row : wr.rowIs w.heap.size 9 n (fun i => if i < k then sv (K i) else .string ⟨#[]⟩)

theorem kinv_start (w : World) (n : Nat) (K : Nat → Str) : KInv w n K 0 (w.alloc (.cells (madeCells #[.string ⟨#[]⟩] n) 9)) :=
  ⟨(Below.refl _ _).alloc (Nat.le_refl _) _, (World.rowIs_made w (.string ⟨#[]⟩) n 9).congr fun i _ => by simp⟩

theorem KInv.lt {w wr : World} {n : Nat} {K : Nat → Str} {k : Nat} (h : KInv w n K k wr) : w.heap.size < wr.heap.size := by
  obtain ⟨cs, h1, _⟩ := h.row
  exact (Array.getElem?_eq_some_iff.1 h1).1

theorem KInv.below {w wr w' : World} {n : Nat} {K : Nat → Str} {k : Nat} (h : KInv w n K k wr) (hb : Below wr.heap.size wr w') : KInv w n K k w' := by
  have hlt := h.lt
  refine ⟨h.bel.trans (hb.mono h.bel.size), ?_⟩
  obtain ⟨cs, h1, h2⟩ := h.row
  exact ⟨cs, (hb.block _ hlt).trans h1, h2⟩

theorem KInv.step {w wr : World} {n : Nat} {K : Nat → Str} {k : Nat} {x : Str} (h : KInv w n K k wr) (hx : K k = x) : KInv w n K (k + 1) (wr.setCell ⟨w.heap.size, k, none⟩ (sv x)) := by
  refine ⟨h.bel.setCell (Nat.le_refl _) _, (h.row.set k _).congr fun i _ => ?_⟩
  by_cases e : i = k
  · subst e
    rw [if_pos rfl, if_pos (by omega), hx]
  · rw [if_neg e]
    by_cases hl : i < k
    · rw [if_pos hl, if_pos (by omega)]
    · rw [if_neg hl, if_neg (by omega)]

theorem KInv.vals {w wr : World} {n : Nat} {K : Nat → Str} (h : KInv w n K n wr) : Vals wr (some ⟨w.heap.size, 0, none⟩) n (fun i => sv (K i)) := by
  intro i hi
  refine ⟨_, 0, rfl, ?_⟩
  rw [Nat.zero_add, h.row.cell hi, if_pos hi]

def KeysPost (K : Nat → Str) (n : Nat) (w : World) (e : Ending) (w' : World) : Prop := ∃ ak, e = .returned (.slice ak n n) ∧ Vals w' ak n (fun i => sv (K i)) ∧ Below w.heap.size w w'

set_option maxHeartbeats 2000000 in
theorem keys_any (a0 a1 : Option Addr) (n c0 c1 : Nat) (E : Nat → Bool) (N : Nat → List Str) (K : Nat → Str) (HK : Hid (∀ i, K i = key (E i) (N i))) (w : World) (hE : Bools w a0 n E) (hN : Names w a1 n N) (hn : n ≤ 4096) (ht : tot N n ≤ 4096) (hby : byt N n ≤ 1048576) :
    Calls Try.prog 13 #[.slice a0 n c0, .slice a1 n c1] w (KeysPost K n w) := by
  have hmk := run_make_row' (P := Try.prog) 32 9 (.string ⟨#[]⟩) 16 Try.underlying32 info9k rfl .i64 .i64 n (by omega) (by omega)
  go_enter Try.func13, Try.ntmps13
  go_wp2_with fail
  clear hmk
  go_loopw [6] (fun i wr => ∃ k : Nat, k ≤ n ∧ i = .int .i64 k ∧ KInv w n K k wr) (fun i _ => n - (intOf i).toNat)
  case atStart => exact ⟨0, Nat.zero_le _, rfl, kinv_start w n K⟩
  case round =>
    obtain ⟨k, hk, rfl, hR⟩ := hrel
    by_cases hlt : k < n
    · obtain ⟨b0, o0, rfl, h0⟩ := hE k hlt
      obtain ⟨b1, o1, ai, ci, rfl, h1, hcap, hs⟩ := hN k hlt
      have d0 := cell_below hR.bel h0
      have d1 := cell_below hR.bel h1
      have hs1 := hs.below hR.bel
      have hbl := Nat.le_trans (bytL_le N hlt) hby
      have hll := Nat.le_trans (len_le N hlt) ht
      have HL : Hid (∀ w', Strs w' ai (N k) → Calls Try.prog 24 #[.bool (E k), .slice ai (N k).length ci] w' fun r w'' => r = .returned (sv (K k)) ∧ Below w'.heap.size w' w'') := fun w' h => by
        rw [HK.out]
        exact listKey_any (E k) ai ci (N k) w' h hbl (by omega)
      obtain ⟨l, hl⟩ : ∃ l, N k = l := ⟨_, rfl⟩
      obtain ⟨ev, hev⟩ : ∃ ev, E k = ev := ⟨_, rfl⟩
      obtain ⟨kx, hkx⟩ : ∃ kx, K k = kx := ⟨_, rfl⟩
      rw [hl] at hs1 d1 HL
      rw [hev] at d0 HL
      rw [hkx] at HL
      have HX : Hid (K k = kx) := hkx
      clear h0 h1 hs hl hev hkx hcap
      go_wp2_with fail
      go_region_with (go_at_call 24; refine (HL.out _ hs1.drew).mono ?_; rintro e w7 ⟨rfl, hb7⟩; have hR7 : KInv w n K k w7 := hR.below (((Below.refl wr.heap.size wr).drew).trans hb7); have r7 := hR7.row.cell hlt; rw [if_neg (Nat.lt_irrefl _)] at r7; have f7 := hR7.row.frozen k)
      all_goals
        go_wp2_with fail
        go_roundw
        case rel => exact ⟨k + 1, by omega, by go_num, hR7.step HX.out⟩
        case measure => simp [intOf]; omega
    · obtain rfl : k = n := by omega
      go_wp2_with fail
      go_ret
      exact ⟨_, rfl, hR.vals, hR.bel⟩

end Go.Proofs.Qxb6605708a.Uni
