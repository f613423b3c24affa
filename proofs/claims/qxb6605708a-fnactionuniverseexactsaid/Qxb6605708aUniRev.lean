/-
  What the two laws share: the copy of 'every', the inner slices by a function, sums over reversed lists, two sets of one text.
-/
import Derived.Test.Qxb6605708aUniZZ
import Derived.Laws.CopyOwn
namespace Go.Proofs.Qxb6605708a.Uni
open Go.RowKit
set_option linter.unusedVariables false

/-! ### sums over reversed lists -/
theorem tot_front (N : Nat → List Str) (n : Nat) : tot N (n + 1) = (N 0).length + tot (fun i => N (i + 1)) n := by
  induction n with
  | zero => simp [tot]
  | succ n ih =>
    have h1 : tot N (n + 1 + 1) = tot N (n + 1) + (N (n + 1)).length := rfl
    have h2 : tot (fun i => N (i + 1)) (n + 1) = tot (fun i => N (i + 1)) n + (N (n + 1)).length := rfl
    rw [h1, h2, ih]
    omega
theorem tot_congr {N N' : Nat → List Str} {n : Nat} (h : ∀ i, i < n → N' i = N i) : tot N' n = tot N n := by
  induction n with
  | zero => rfl
  | succ n ih =>
    show tot N' n + (N' n).length = tot N n + (N n).length
    rw [ih (fun i hi => h i (by omega)), h n (by omega)]
theorem tot_rev {N N' : Nat → List Str} : ∀ {n : Nat}, (∀ i, i < n → N' i = N (n - 1 - i)) → tot N' n = tot N n := by
  intro n
  induction n generalizing N N' with
  | zero => intro _; rfl
  | succ n ih =>
    intro h
    show tot N' n + (N' n).length = _
    rw [tot_front, h n (by omega), show n + 1 - 1 - n = 0 by omega, ih (N := fun i => N (i + 1)) (N' := N') (fun i hi => by rw [h i (by omega)]; show N (n + 1 - 1 - i) = N (n - 1 - i + 1); congr 1; omega)]
    omega

theorem byt_front (N : Nat → List Str) (n : Nat) : byt N (n + 1) = bytL (N 0) + byt (fun i => N (i + 1)) n := by
  induction n with
  | zero => simp [byt]
  | succ n ih =>
    have h1 : byt N (n + 1 + 1) = byt N (n + 1) + bytL (N (n + 1)) := rfl
    have h2 : byt (fun i => N (i + 1)) (n + 1) = byt (fun i => N (i + 1)) n + bytL (N (n + 1)) := rfl
    rw [h1, h2, ih]
    omega
theorem byt_rev {N N' : Nat → List Str} : ∀ {n : Nat}, (∀ i, i < n → N' i = N (n - 1 - i)) → byt N' n = byt N n := by
  intro n
  induction n generalizing N N' with
  | zero => intro _; rfl
  | succ n ih =>
    intro h
    show byt N' n + bytL (N' n) = _
    rw [byt_front, h n (by omega), show n + 1 - 1 - n = 0 by omega, ih (N := fun i => N (i + 1)) (N' := N') (fun i hi => by rw [h i (by omega)]; show N (n + 1 - 1 - i) = N (n - 1 - i + 1); congr 1; omega)]
    omega

theorem str_le {l : List Str} {x : Str} (h : x ∈ l) : List.length x ≤ bytL l := by
  induction l with
  | nil => cases h
  | cons y r ih =>
    simp only [bytL]
    rcases List.mem_cons.1 h with rfl | h
    · omega
    · have := ih h; omega

/-! ### the inner slices by a function -/
def InnerOk (w : World) (v : Value) (l : List Str) : Prop := ∃ ai ci, v = .slice ai l.length ci ∧ CapOk ai l.length ci ∧ Strs w ai l
theorem InnerOk.below {w w' : World} {v : Value} {l : List Str} (h : InnerOk w v l) (hb : Below w.heap.size w w') : InnerOk w' v l := by
  obtain ⟨ai, ci, h1, h2, h3⟩ := h
  exact ⟨ai, ci, h1, h2, h3.below hb⟩

def Vals (w : World) (a : Option Addr) (n : Nat) (V : Nat → Value) : Prop := ∀ i, i < n → ∃ b off, a = some ⟨b, off, none⟩ ∧ w.cell? ⟨b, off + i, none⟩ = some (V i)
theorem Vals.below {w w' : World} {a : Option Addr} {n : Nat} {V : Nat → Value} (h : Vals w a n V) (hb : Below w.heap.size w w') : Vals w' a n V := fun i hi => by
  obtain ⟨b, off, h1, h2⟩ := h i hi
  exact ⟨b, off, h1, cell_below hb h2⟩

theorem Names.vals {w : World} {a : Option Addr} {n : Nat} {N : Nat → List Str} (h : Names w a n N) : ∃ V : Nat → Value, Vals w a n V ∧ ∀ i, i < n → InnerOk w (V i) (N i) := by
  have hx : ∀ i, ∃ v : Value, i < n → (∃ b off, a = some ⟨b, off, none⟩ ∧ w.cell? ⟨b, off + i, none⟩ = some v) ∧ InnerOk w v (N i) := by
    intro i
    by_cases hi : i < n
    · obtain ⟨b, off, ai, ci, h1, h2, h3, h4⟩ := h i hi
      exact ⟨_, fun _ => ⟨⟨b, off, h1, h2⟩, ai, ci, rfl, h3, h4⟩⟩
    · exact ⟨.bool false, fun h => absurd h hi⟩
  exact ⟨fun i => Classical.choose (hx i), fun i hi => (Classical.choose_spec (hx i) hi).1, fun i hi => (Classical.choose_spec (hx i) hi).2⟩

/-! ### two sets of one text -/
theorem SetAt.congr {w : World} {base s : Nat} {U : List Str} {e e' : Bool} {l l' : List Str} (h : SetAt w base s U e l) (he : e = e') (hl : e = false → l = l') : SetAt w base s U e' l' := by
  subst he
  cases e with
  | false => rw [← hl rfl]; exact h
  | true =>
    obtain ⟨aa, ca, h1, h2, h3⟩ := h
    exact ⟨aa, ca, h1, h2, fun i hi => absurd hi (Nat.not_lt_zero _)⟩

theorem SetAt.below {w w' : World} {base s : Nat} {U : List Str} {e : Bool} {l : List Str} (h : SetAt w base s U e l) (hb : Below w.heap.size w w') : SetAt w' base s U e l := by
  obtain ⟨aa, ca, h1, h2, h3⟩ := h
  refine ⟨aa, ca, h1, ?_, fun i hi => ?_⟩
  · rw [hb.block s (Array.getElem?_eq_some_iff.1 h2).1]
    exact h2
  · obtain ⟨b, off, g1, g2, g3⟩ := h3 i hi
    exact ⟨b, off, g1, g2, cell_below hb g3⟩

theorem setLen_le (e : Bool) (l : List Str) : setLen e l ≤ l.length := by
  unfold setLen
  split <;> omega

/-! ### the copy of 'every' -/
def boolCells (E : Nat → Bool) (n : Nat) : List Value := (List.range n).map fun i => Value.bool (E i)
theorem boolCells_len (E : Nat → Bool) (n : Nat) : (boolCells E n).length = n := by simp [boolCells]
theorem boolCells_one (E : Nat → Bool) (n : Nat) : ∀ v ∈ boolCells E n, v.oneCell' = true := by
  intro v hv
  obtain ⟨i, _, rfl⟩ := List.mem_map.1 hv
  rfl
theorem bools_src {w : World} {a : Option Addr} {n : Nat} {E : Nat → Bool} (h : Bools w a n E) : 0 < n → ∃ ad, a = some ad ∧ ∀ j v, (boolCells E n)[j]? = some v → w.cell? (ad.add j) = some v := by
  intro hn
  obtain ⟨b, off, ha, _⟩ := h 0 hn
  refine ⟨_, ha, fun j v hj => ?_⟩
  have hjn : j < n := by have := (List.getElem?_eq_some_iff.1 hj).1; rwa [boolCells_len] at this
  obtain ⟨b', off', ha', hc⟩ := h j hjn
  rw [ha] at ha'
  simp only [Option.some.injEq, Addr.mk.injEq, and_true] at ha'
  obtain ⟨rfl, rfl⟩ := ha'
  rw [Addr.add_lit, hc]
  have : (boolCells E n)[j]? = some (.bool (E j)) := by simp [boolCells, hjn]
  rw [this] at hj
  exact hj

theorem info4 : (Try.prog.info? 4).map (fun i => (i.zero, i.size, i.bytes)) = some (some (.bool false), 1, 1) := by kernel_rfl
theorem size4 : (Try.prog.info? 4).map (·.size) = some 1 := by kernel_rfl
theorem info32 : (Try.prog.info? 32).map (fun i => (i.zero, i.size, i.bytes)) = some (some (.slice none 0 0), 1, 24) := by kernel_rfl

theorem bools_copied {w : World} {g n : Nat} {E : Nat → Bool} {cur : List Value} (hcur : cur.length = n) (h : w.heap[g]? = some (.cells (splice cur 0 (boolCells E n)).toArray 4 (0, 0))) : Bools w (some ⟨g, 0, none⟩) n E := by
  intro i hi
  refine ⟨g, 0, rfl, ?_⟩
  rw [cell_blk h]
  have e : splice cur 0 (boolCells E n) = boolCells E n := by
    simp [splice, boolCells_len]
    omega
  rw [e]
  simp [boolCells, hi]

theorem equal_below (a b : Option Addr) (n c d : Nat) (f : Nat → Int) (w : World) (ha : Ints w a n f) (hb : Ints w b n f) (hn : n ≤ 1048576) :
    Calls Try.prog 23 #[.slice a n c, .slice b n d] w fun e w' => e = .returned (.bool true) ∧ Below w.heap.size w w' :=
  (equal_any a b n c d f w ha hb hn).mono fun e w' ⟨he, q, hw⟩ => ⟨he, by rw [hw]; exact draws w q⟩

theorem ints_none (w : World) (a : Option Addr) (f : Nat → Int) : Ints w a 0 f := fun i hi => absurd hi (Nat.not_lt_zero _)

theorem Strs.drew {w : World} {a : Option Addr} {l : List Str} (h : Strs w a l) : Strs w.drew a l := h

/-! ### the reversed lists -/
structure RInv (w : World) (n : Nat) (E : Nat → Bool) (V : Nat → Value) (k : Nat) (wr : World) : Prop where
  bel : Below w.heap.size w wr
  r0 : wr.rowIs w.heap.size 4 n (fun i => .bool (if i < k then E (n - 1 - i) else false))
  r1 : wr.rowIs (w.heap.size + 1) 32 n (fun i => if i < k then V (n - 1 - i) else .slice none 0 0)

theorem rinv_start (w : World) (n : Nat) (E : Nat → Bool) (V : Nat → Value) : RInv w n E V 0 ((w.alloc (.cells (madeCells #[.bool false] n) 4)).alloc (.cells (madeCells #[.slice none 0 0] n) 32)) := by
  refine ⟨((Below.refl _ _).alloc (Nat.le_refl _) _).alloc (by simp) _, ((World.rowIs_made w (.bool false) n 4).alloc _).congr fun i _ => by simp, ?_⟩
  have h := World.rowIs_made (w.alloc (.cells (madeCells #[.bool false] n) 4)) (.slice none 0 0) n 32
  rw [World.size_alloc] at h
  exact h.congr fun i _ => by simp

theorem RInv.step {w wr : World} {n : Nat} {E : Nat → Bool} {V : Nat → Value} {k : Nat} {ev : Bool} {v : Value} (h : RInv w n E V k wr) (he : E (n - 1 - k) = ev) (hv : V (n - 1 - k) = v) :
    RInv w n E V (k + 1) ((wr.setCell ⟨w.heap.size, k, none⟩ (.bool ev)).setCell ⟨w.heap.size + 1, k, none⟩ v) := by
  refine ⟨(h.bel.setCell (Nat.le_refl _) _).setCell (Nat.le_succ _) _, ((h.r0.set k _).setOther (by simp) _).congr fun i _ => ?_, ((h.r1.setOther (by simp) _).set k _).congr fun i _ => ?_⟩
  · by_cases e : i = k
    · subst e
      rw [if_pos rfl, if_pos (by omega), he]
    · rw [if_neg e]
      by_cases hl : i < k
      · rw [if_pos hl, if_pos (by omega)]
      · rw [if_neg hl, if_neg (by omega)]
  · by_cases e : i = k
    · subst e
      rw [if_pos rfl, if_pos (by omega), hv]
    · rw [if_neg e]
      by_cases hl : i < k
      · rw [if_pos hl, if_pos (by omega)]
      · rw [if_neg hl, if_neg (by omega)]

theorem RInv.bools {w wr : World} {n : Nat} {E : Nat → Bool} {V : Nat → Value} (h : RInv w n E V n wr) : Bools wr (some ⟨w.heap.size, 0, none⟩) n (fun i => E (n - 1 - i)) := by
  intro i hi
  refine ⟨_, 0, rfl, ?_⟩
  rw [Nat.zero_add, h.r0.cell hi, if_pos hi]
theorem RInv.vals {w wr : World} {n : Nat} {E : Nat → Bool} {V : Nat → Value} (h : RInv w n E V n wr) : Vals wr (some ⟨w.heap.size + 1, 0, none⟩) n (fun i => V (n - 1 - i)) := by
  intro i hi
  refine ⟨_, 0, rfl, ?_⟩
  rw [Nat.zero_add, h.r1.cell hi, if_pos hi]

end Go.Proofs.Qxb6605708a.Uni
