/-
  The walks of 'digitsDifference' (19) and 'ZZdigitsDifference' (13).
-/
import Derived.Test.Qxb6605767aDigWalks
import Derived.Deep.OwnRows
import Derived.Laws.BytesArg
namespace Go.Proofs.Qxb6605767a.Dig
open Go.RowKit
set_option linter.unusedVariables false

theorem info5 : (Try.prog.info? 5).map (fun i => (i.zero, i.size, i.bytes)) = some (some (.int .u8 0), 1, 1) := by kernel_rfl

/-- the numbers of the bytes of the difference -/
def diffNums (x y : ByteArray) : List Int := (List.range x.size).map fun p => 48 + dif (pl x) (pl y) (x.size - 1 - p)
def diffStr (x y : ByteArray) : ByteArray := strOfNums (diffNums x y)

theorem diffNums_len (x y : ByteArray) : (diffNums x y).length = x.size := by simp [diffNums]
theorem diffNums_at (x y : ByteArray) (p : Nat) (h : p < x.size) : (diffNums x y).getD p 0 = 48 + dif (pl x) (pl y) (x.size - 1 - p) := by
  simp [diffNums, h]

theorem diffStr_size (x y : ByteArray) : (diffStr x y).size = x.size := by rw [diffStr, strOfNums_size, diffNums_len]

theorem diffStr_chr (x y : ByteArray) (p : Nat) (h : p < x.size) : chr (diffStr x y) p = 48 + dif (pl x) (pl y) (x.size - 1 - p) := by
  have hd := dif_dig (pl x) (pl y) (x.size - 1 - p)
  unfold chr diffStr
  rw [strOfNums_data, List.getD_eq_getElem?_getD, List.getElem?_map]
  have e : (diffNums x y)[p]? = some (48 + dif (pl x) (pl y) (x.size - 1 - p)) := by simp [diffNums, h]
  rw [e]
  simp only [Option.map_some, Option.getD_some]
  rw [UInt8.toNat_ofNat_of_lt' (by show _ < 256; omega)]
  omega

theorem diffStr_dig (x y : ByteArray) : IsDig (diffStr x y) := by
  intro i hi
  rw [diffStr_size] at hi
  rw [diffStr_chr x y i hi]
  have hd := dif_dig (pl x) (pl y) (x.size - 1 - i)
  omega

theorem diffStr_pl (x y : ByteArray) (j : Nat) (h : j < x.size) : pl (diffStr x y) j = dif (pl x) (pl y) j := by
  rw [pl_at _ _ (by rw [diffStr_size]; exact h), diffStr_size, diffStr_chr x y _ (by omega), show x.size - 1 - (x.size - 1 - j) = j by omega]
  omega

/-- what stands in the row behind k rounds -/
def cellAt (x y : Nat → Int) (n k p : Nat) : Value := .int .u8 (if n - k ≤ p then 48 + dif x y (n - 1 - p) else 0)

structure DInv (x y : Nat → Int) (n k : Nat) (w wr : World) : Prop where
  below : Below w.heap.size w wr
  row : wr.rowIs w.heap.size 5 n (cellAt x y n k)

theorem dinv_start (x y : Nat → Int) (n : Nat) (w : World) : DInv x y n 0 w (w.alloc (.cells (madeCells #[.int .u8 0] n) 5)) := by
  refine ⟨(Below.refl _ _).alloc (Nat.le_refl _) _, (World.rowIs_made w (.int .u8 0) n 5).congr fun i hi => ?_⟩
  unfold cellAt
  rw [if_neg (by omega)]

theorem DInv.step {x y : Nat → Int} {n k : Nat} {w wr : World} (h : DInv x y n k w wr) (hk : k < n) {v : Int} (hv : v = 48 + dif x y k) {q : Nat} (hq : q = n - 1 - k) :
    DInv x y n (k + 1) w (wr.setCell ⟨w.heap.size, q, none⟩ (.int .u8 v)) := by
  refine ⟨h.below.setCell (Nat.le_refl _) _, (h.row.set q _).congr fun i hi => ?_⟩
  unfold cellAt
  by_cases e : i = q
  · subst e
    rw [if_pos rfl, if_pos (by omega), hv, show n - 1 - i = k by omega]
  · rw [if_neg e]
    by_cases e2 : n - k ≤ i
    · rw [if_pos e2, if_pos (by omega)]
    · rw [if_neg e2, if_neg (by omega)]

theorem diff_cv (x y : ByteArray) (w wr : World) (h : DInv (pl x) (pl y) x.size x.size w wr) : (convert 42 9 (.slice (some ⟨w.heap.size, 0, none⟩) x.size x.size)).run Try.prog wr = .ok (.string (diffStr x y)) wr := by
  refine run_convert_bytes_arg (P := Try.prog) wr 42 5 Try.underlying42 Try.underlying5 w.heap.size 0 x.size x.size (diffNums x y) (diffNums_len x y) (fun i hi => ?_) 9 Try.underlying9
  rw [Nat.zero_add, h.row.cell hi, diffNums_at x y i hi]
  unfold cellAt
  rw [if_pos (by omega)]

theorem pl_x (x : ByteArray) (k : Nat) (h : k < x.size) (hq : x.size - 1 - k < x.size) : pl x k = ((x[x.size - 1 - k]'hq).toNat : Int) - 48 := by
  rw [pl_at x k h, chr_get x _ hq]

theorem way_both {x y : ByteArray} {k : Nat} {b : Int} (h : k < x.size) (hq : x.size - 1 - k < x.size) (h' : k < y.size) (hr : y.size - 1 - k < y.size) (hb : b = bor (pl x) (pl y) k) :
    1 - (((x[x.size - 1 - k]'hq).toNat : Int) - 48 + 10 - b - (((y[y.size - 1 - k]'hr).toNat : Int) - 48)) / 10 = bor (pl x) (pl y) (k + 1) ∧
    48 + (((x[x.size - 1 - k]'hq).toNat : Int) - 48 + 10 - b - (((y[y.size - 1 - k]'hr).toNat : Int) - 48)) % 10 = 48 + dif (pl x) (pl y) k := by
  rw [bor_succ, dif, ← hb, pl_x x k h hq, pl_x y k h' hr]
  exact ⟨rfl, rfl⟩

theorem way_one {x y : ByteArray} {k : Nat} {b : Int} (h : k < x.size) (hq : x.size - 1 - k < x.size) (h' : ¬ k < y.size) (hb : b = bor (pl x) (pl y) k) :
    1 - (((x[x.size - 1 - k]'hq).toNat : Int) - 48 + 10 - b) / 10 = bor (pl x) (pl y) (k + 1) ∧ 48 + (((x[x.size - 1 - k]'hq).toNat : Int) - 48 + 10 - b) % 10 = 48 + dif (pl x) (pl y) k := by
  rw [bor_succ, dif, ← hb, pl_x x k h hq, pl_off y k h', Int.sub_zero]
  exact ⟨rfl, rfl⟩

theorem int_eq {k : IntKind} {a b : Int} (h : a = b) : Value.int k a = .int k b := by rw [h]

set_option maxHeartbeats 1000000 in
theorem diff_any (x y : ByteArray) (w : World) (hx : x.size ≤ 65536) (hy : y.size ≤ x.size) (dx : IsDig x) (dy : IsDig y) :
    Calls Try.prog 19 #[.string x, .string y] w fun e w' => e = .returned (.string (diffStr x y)) ∧ Below w.heap.size w w' := by
  have hmk := run_make_row' (P := Try.prog) 42 5 (.int .u8 0) 1 Try.underlying42 info5 rfl .i64 .i64 x.size (by omega) (by omega)
  go_enter Try.func19, Try.ntmps19
  go_wp2
  clear hmk
  go_loopw [6, 14] (fun b i wr => ∃ k : Nat, k ≤ x.size ∧ i = .int .i64 k ∧ b = .int .u8 (bor (pl x) (pl y) k) ∧ DInv (pl x) (pl y) x.size k w wr) (fun _ i _ => x.size - (intOf i).toNat)
  case atStart => exact ⟨0, Nat.zero_le _, rfl, rfl, dinv_start _ _ _ w⟩
  case round =>
    obtain ⟨k, hk, rfl, rfl, hI⟩ := hrel
    by_cases hlt : k < x.size
    · have hb := bor_01 dx.pl dy.pl k
      obtain ⟨b, hbb⟩ : ∃ b, b = bor (pl x) (pl y) k := ⟨_, rfl⟩
      rw [← hbb] at hb ⊢
      have HB : Hid (b = bor (pl x) (pl y) k) := hbb
      clear hbb
      have hq : x.size - 1 - k < x.size := by omega
      have hcx := dx (x.size - 1 - k) hq
      rw [← chr_get x _ hq] at hcx
      have hc := hI.row.cell hq
      have hf := hI.row.frozen (x.size - 1 - k)
      by_cases hky : k < y.size
      · have hr : y.size - 1 - k < y.size := by omega
        have hcy := dy (y.size - 1 - k) hr
        rw [← chr_get y _ hr] at hcy
        have W := way_both hlt hq hky hr HB.out
        have HW : Hid (_ ∧ _) := W
        clear W
        go_wp2
        go_roundw
        case rel => exact ⟨k + 1, by omega, by go_num, int_eq HW.out.1, hI.step hlt HW.out.2 rfl⟩
        case measure => simp [intOf]; omega
      · have W := way_one hlt hq hky HB.out
        have HW : Hid (_ ∧ _) := W
        clear W
        go_wp2
        go_roundw
        case rel => exact ⟨k + 1, by omega, by go_num, int_eq HW.out.1, hI.step hlt HW.out.2 rfl⟩
        case measure => simp [intOf]; omega
    · obtain rfl : k = x.size := by omega
      have hcv := diff_cv x y w wr hI
      go_wp2
      go_ret
      exact ⟨rfl, hI.below⟩

theorem zzdiff_any (x y : ByteArray) (w : World) (hx : x.size ≤ 65536) (hy : y.size ≤ x.size) (dx : IsDig x) (dy : IsDig y) :
    Calls Try.prog 13 #[.string x, .string y] w fun e w' => e = .returned (.string (diffStr x y)) ∧ Below w.heap.size w w' := by
  go_enter Try.func13, Try.ntmps13
  go_wp2_with fail
  refine (diff_any x y _ hx hy dx dy).mono ?_
  rintro e w' ⟨rfl, hb⟩
  go_wp2
  go_ret
  exact ⟨rfl, hb⟩

end Go.Proofs.Qxb6605767a.Dig
