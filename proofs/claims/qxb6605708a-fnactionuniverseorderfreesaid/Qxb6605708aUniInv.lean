/-
  What newActionUniverse keeps round by round: the book's block, its map, its sets.
-/
import Derived.Test.Qxb6605708aUniMap
import Derived.Deep.OwnRows
namespace Go.Proofs.Qxb6605708a.Uni
open Go.RowKit
set_option linter.unusedVariables false

/-- a slice of n actionLists: two cells each -/
def Lists (w : World) (b off n : Nat) (E : Nat → Bool) (N : Nat → List Str) : Prop :=
  ∀ i, i < n → w.cell? ⟨b, off + i * 2, none⟩ = some (.bool (E i)) ∧ ∃ ai ci, w.cell? ⟨b, off + i * 2 + 1, none⟩ = some (.slice ai (N i).length ci) ∧ CapOk ai (N i).length ci ∧ Strs w ai (N i)

theorem Lists.below {w w' : World} {b off n : Nat} {E : Nat → Bool} {N : Nat → List Str} (h : Lists w b off n E N) (hb : Below w.heap.size w w') : Lists w' b off n E N := by
  intro i hi
  obtain ⟨h1, ai, ci, h2, h3, h4⟩ := h i hi
  exact ⟨cell_below hb h1, ai, ci, cell_below hb h2, h3, h4.below hb⟩

/-- a slice of strings that lies below block p -/
def StrsLt (w : World) (a : Option Addr) (l : List Str) (p : Nat) : Prop := ∀ i, i < l.length → ∃ b off, b < p ∧ a = some ⟨b, off, none⟩ ∧ w.cell? ⟨b, off + i, none⟩ = some (sv (l.getD i []))
theorem StrsLt.strs {w : World} {a : Option Addr} {l : List Str} {p : Nat} (h : StrsLt w a l p) : Strs w a l := fun i hi => let ⟨b, off, _, ha, hc⟩ := h i hi; ⟨b, off, ha, hc⟩
theorem strsLt_of {w : World} {a : Option Addr} {l : List Str} (h : Strs w a l) : StrsLt w a l w.heap.size := fun i hi => by
  obtain ⟨b, off, ha, hc⟩ := h i hi
  exact ⟨b, off, World.block_lt_of_cell? w _ hc, ha, hc⟩

/-- int32s that lie from block 'base' on -/
def IntsFrom (w : World) (base : Nat) (a : Option Addr) (n : Nat) (f : Nat → Int) : Prop := ∀ i, i < n → ∃ b off, base ≤ b ∧ a = some ⟨b, off, none⟩ ∧ w.cell? ⟨b, off + i, none⟩ = some (.int .i32 (f i))
theorem IntsFrom.ints {w : World} {base : Nat} {a : Option Addr} {n : Nat} {f : Nat → Int} (h : IntsFrom w base a n f) : Ints w a n f := fun i hi => let ⟨b, off, _, ha, hc⟩ := h i hi; ⟨b, off, ha, hc⟩

def setLen (e : Bool) (l : List Str) : Nat := if e = true then 0 else l.length
/-- block s is the set of a list: nothing whole, missing or removed; the numbers of its names added -/
def SetAt (w : World) (base s : Nat) (U : List Str) (e : Bool) (l : List Str) : Prop :=
  ∃ aa ca, base ≤ s ∧ w.heap[s]? = some (.cells #[.slice none 0 0, .slice none 0 0, .slice none 0 0, .slice aa (setLen e l) ca, .int .i64 (setLen e l : Nat), .bool e] 59 (0, 0)) ∧
    IntsFrom w base aa (setLen e l) (fun j => (below U (l.getD j []) : Nat))

theorem cell_grown {w w' : World} {r : Nat} {p : Addr} {v : Value} (hg : w.grownBy w' (some r)) (hne : p.block ≠ r) (h : w.cell? p = some v) : w'.cell? p = some v := hg.cell h (by simpa using hne)

theorem SetAt.kept {w w' : World} {base s : Nat} {U : List Str} {e : Bool} {l : List Str} {r : Nat} (h : SetAt w base s U e l) (hg : w.grownBy w' (some r)) (hr : r < base) : SetAt w' base s U e l := by
  obtain ⟨aa, ca, hs, hb, hi⟩ := h
  refine ⟨aa, ca, hs, ?_, fun i hi' => ?_⟩
  · rw [hg.block s (Array.getElem?_eq_some_iff.1 hb).1 (by simp; omega)]
    exact hb
  · obtain ⟨b, off, h1, h2, h3⟩ := hi i hi'
    exact ⟨b, off, h1, h2, cell_grown hg (by simp; omega) h3⟩

theorem grown_none {w w' : World} (h : w.grownBy w' none) (r : Option Nat) : w.grownBy w' r := ⟨h.os, h.tape, h.output, h.size, fun k hk _ => h.block k hk (by simp)⟩

structure LInv (w : World) (p : Nat) (U : List Str) (av : Option Addr) (E : Nat → Bool) (N : Nat → List Str) (K : Nat → Str) (k : Nat) (wr : World) : Prop where
  below : Below w.heap.size w wr
  hp : w.heap.size ≤ p
  size : p + 4 ≤ wr.heap.size
  ofs : wr.rowIs p 21 U.length (fun _ => .int .i32 0)
  siz : wr.heap[p + 1]? = some (.cells #[.int .i32 ((U.length : Int) + 1)] 21 (0, 0))
  cells : wr.heap[p + 1 + 1 + 1]? = some (.cells #[.slice (some ⟨p, 0, none⟩) U.length U.length, .slice (some ⟨p + 1, 0, none⟩) 1 1, .int .i64 ((U.length : Int) + 1), .map (some (p + 1 + 1))] 52 (0, 0))
  strs : StrsLt wr av U p
  sets : ∃ sb D, MapInv wr (p + 1 + 1) K k sb D ∧ ∀ i x, fi k K x = some i → SetAt wr (p + 4) (sb i) U (E i) (N i)

/-- all of it but the map and the sets, behind whatever turns the map's block alone -/
theorem LInv.core {w : World} {p : Nat} {U : List Str} {av : Option Addr} {E : Nat → Bool} {N : Nat → List Str} {K : Nat → Str} {k k' : Nat} {wr w' : World} (h : LInv w p U av E N K k wr) (hg : wr.grownBy w' (some (p + 1 + 1)))
    (hs : ∃ sb D, MapInv w' (p + 1 + 1) K k' sb D ∧ ∀ i x, fi k' K x = some i → SetAt w' (p + 4) (sb i) U (E i) (N i)) : LInv w p U av E N K k' w' := by
  have hp := h.hp
  have hsz := h.size
  have hsz' := hg.size
  refine ⟨h.below.grown hg (by omega) (fun j hj => by cases hj; omega), hp, by omega, h.ofs.of_block (hg.block p (by omega) (by simp; omega)), ?_, ?_, fun i hi => ?_, hs⟩
  · rw [hg.block (p + 1) (by omega) (by simp)]; exact h.siz
  · rw [hg.block (p + 1 + 1 + 1) (by omega) (by simp)]; exact h.cells
  · obtain ⟨b, off, h1, h2, h3⟩ := h.strs i hi
    exact ⟨b, off, h1, h2, cell_grown hg (by simp; omega) h3⟩

theorem LInv.kept {w : World} {p : Nat} {U : List Str} {av : Option Addr} {E : Nat → Bool} {N : Nat → List Str} {K : Nat → Str} {k : Nat} {wr w' : World} (h : LInv w p U av E N K k wr) (hg : wr.grownBy w' none) : LInv w p U av E N K k w' := by
  obtain ⟨sb, D, hm, hs⟩ := h.sets
  exact h.core (grown_none hg _) ⟨sb, D, hm.kept hg (by simp), fun i x hi => (hs i x hi).kept (r := p + 1 + 1) (grown_none hg _) (by omega)⟩

theorem LInv.belowStep {w : World} {p : Nat} {U : List Str} {av : Option Addr} {E : Nat → Bool} {N : Nat → List Str} {K : Nat → Str} {k : Nat} {wr w' : World} (h : LInv w p U av E N K k wr) (hb : Below wr.heap.size wr w') : LInv w p U av E N K k w' :=
  h.kept (below_grown hb (Nat.le_refl _))

/-- the list's text is there already -/
theorem LInv.skip {w : World} {p : Nat} {U : List Str} {av : Option Addr} {E : Nat → Bool} {N : Nat → List Str} {K : Nat → Str} {k : Nat} {wr : World} (h : LInv w p U av E N K k wr) {i : Nat} (hf : fi k K (K k) = some i) : LInv w p U av E N K (k + 1) wr := by
  obtain ⟨sb, D, hm, hs⟩ := h.sets
  refine ⟨h.below, h.hp, h.size, h.ofs, h.siz, h.cells, h.strs, sb, D, hm.skip hf, fun j x hj => ?_⟩
  cases hx : fi k K x with
  | some j' =>
    rw [fi_succ_some hx] at hj
    cases hj
    exact hs _ x hx
  | none =>
    rw [fi_succ_none hx] at hj
    by_cases e : K k = x
    · subst e
      rw [hx] at hf
      cases hf
    · rw [if_neg e] at hj
      cases hj

/-- a new set s is stored under the list's text -/
theorem LInv.put {w : World} {p : Nat} {U : List Str} {av : Option Addr} {E : Nat → Bool} {N : Nat → List Str} {K : Nat → Str} {k : Nat} {wr w' : World} (h : LInv w p U av E N K k wr) {s : Nat} {sb : Nat → Nat} {D : DataW Unit} (hm : MapInv wr (p + 1 + 1) K k sb D)
    (hs : ∀ i x, fi k K x = some i → SetAt wr (p + 4) (sb i) U (E i) (N i)) (hf : fi k K (K k) = none) (hset : SetAt wr (p + 4) s U (E k) (N k))
    (hown : w'.ownsMap Try.prog 9 ptrElem (p + 1 + 1) (k + 1) (D.put (.string (K k)) (ptrD s))) (hg : wr.grownBy w' (some (p + 1 + 1))) : LInv w p U av E N K (k + 1) w' := by
  refine h.core hg ⟨upd sb k s, _, hm.put hf s hown, fun i x hi => ?_⟩
  cases hx : fi k K x with
  | some j =>
    rw [fi_succ_some hx] at hi
    cases hi
    rw [upd_lt sb (fi_some hx).1]
    exact (hs _ x hx).kept hg (by omega)
  | none =>
    rw [fi_succ_none hx] at hi
    by_cases e : K k = x
    · rw [if_pos e] at hi
      cases hi
      rw [upd_same]
      exact hset.kept hg (by omega)
    · rw [if_neg e] at hi
      cases hi

/-- the book as it is laid, ahead of the lists -/
def uniWorld (w2 : World) (U : List Str) : World :=
  (((w2.alloc (.cells (madeCells #[.int .i32 0] U.length) 21)).alloc (.cells #[.int .i32 ((U.length : Int) + 1)] 21)).alloc (.map #[] 0)).alloc
    (.cells #[.slice (some ⟨w2.heap.size, 0, none⟩) U.length U.length, .slice (some ⟨w2.heap.size + 1, 0, none⟩) 1 1, .int .i64 ((U.length : Int) + 1), .map (some (w2.heap.size + 1 + 1))] 52)

theorem heap_alloc (w : World) (o : Obj) (k : Nat) (h : k = w.heap.size) : (w.alloc o).heap[k]? = some o := by
  subst h
  exact heap_alloc_new w o

theorem linv_start (w w2 : World) (hb : Below w.heap.size w w2) (U : List Str) (av : Option Addr) (hs : Strs w2 av U) (E : Nat → Bool) (N : Nat → List Str) (K : Nat → Str) : LInv w w2.heap.size U av E N K 0 (uniWorld w2 U) := by
  have hsz := hb.size
  have h1 : Below w2.heap.size w2 (uniWorld w2 U) := ((((Below.refl _ _).alloc (Nat.le_refl _) _).alloc (by simp) _).alloc (by simp; omega) _).alloc (by simp; omega) _
  unfold uniWorld at *
  refine ⟨hb.trans (h1.mono hsz), hsz, by simp, ?_, ?_, ?_, ?_, fun _ => 0, .map [], ?_, fun i x hi => by simp [fi] at hi⟩
  · exact (((World.rowIs_made w2 (.int .i32 0) U.length 21).alloc _).alloc _).alloc _
  · rw [Below.heap_alloc _ _ _ (by simp), Below.heap_alloc _ _ _ (by simp)]
    exact heap_alloc _ _ _ (by simp)
  · exact heap_alloc _ _ _ (by simp)
  · intro i hi
    obtain ⟨b, off, hbl, ha, hc⟩ := strsLt_of hs i hi
    exact ⟨b, off, hbl, ha, cell_below h1 hc⟩
  · have hm := mapInv_made ((w2.alloc (.cells (madeCells #[.int .i32 0] U.length) 21)).alloc (.cells #[.int .i32 ((U.length : Int) + 1)] 21)) K (fun _ => 0)
    have e : ((w2.alloc (.cells (madeCells #[.int .i32 0] U.length) 21)).alloc (.cells #[.int .i32 ((U.length : Int) + 1)] 21)).heap.size = w2.heap.size + 1 + 1 := by simp
    rw [e] at hm
    exact hm.kept (World.grownBy_alloc _ _ none) (by simp)

theorem LInv.mapCell {w : World} {p : Nat} {U : List Str} {av : Option Addr} {E : Nat → Bool} {N : Nat → List Str} {K : Nat → Str} {k : Nat} {wr : World} (h : LInv w p U av E N K k wr) : wr.cell? ⟨p + 1 + 1 + 1, 3, none⟩ = some (.map (some (p + 1 + 1))) := by
  simp [World.cell?, h.cells]

theorem bytL_le (N : Nat → List Str) {t n : Nat} (h : t < n) : bytL (N t) ≤ byt N n := by
  induction n with
  | zero => omega
  | succ n ih =>
    show _ ≤ byt N n + bytL (N n)
    by_cases e : t = n
    · subst e; omega
    · have := ih (by omega); omega
theorem len_le (N : Nat → List Str) {t n : Nat} (h : t < n) : (N t).length ≤ tot N n := by
  have := tot_mono N (show t + 1 ≤ n by omega)
  have h2 : tot N (t + 1) = tot N t + (N t).length := rfl
  omega
theorem key_len (e : Bool) (l : List Str) (h : bytL l ≤ 1048576) : List.length (key e l) ≤ 1048576 := by
  unfold key
  split
  · simp
  · have := join_len l; omega

/-! ### the row of numbers that a set gathers -/
def idxCells (U : List Str) (l : List Str) : List Value := l.map fun x => Value.int .i32 (below U x : Nat)
theorem idxCells_snoc (U l : List Str) (x : Str) : idxCells U (l ++ [x]) = idxCells U l ++ [.int .i32 (below U x : Nat)] := by simp [idxCells]
theorem idxCells_length (U l : List Str) : (idxCells U l).length = l.length := by simp [idxCells]

theorem own_ints {base : Nat} {w : World} {v : Value} {U l : List Str} (h : w.ownsRow base 21 1 v l.length (idxCells U l)) : ∃ aa ca, v = .slice aa l.length ca ∧ IntsFrom w base aa l.length (fun j => (below U (l.getD j []) : Nat)) := by
  rcases h.2 with ⟨rfl, h0⟩ | ⟨g, cap, cur, rfl, hb, hg, hnc, hcm, hcs, htake⟩
  · obtain rfl : l = [] := List.eq_nil_of_length_eq_zero h0
    exact ⟨none, 0, rfl, fun i hi => absurd hi (Nat.not_lt_zero _)⟩
  · refine ⟨_, _, rfl, fun i hi => ⟨g, 0, hb, rfl, ?_⟩⟩
    rw [Nat.zero_add, h.cellAt i (by omega)]
    simp [idxCells, hi]


/-! ### a set in the making -/
def setCells (va : Value) (m : Int) (e : Bool) : Array Value := #[.slice none 0 0, .slice none 0 0, .slice none 0 0, va, .int .i64 m, .bool e]

structure SInv (w1 : World) (U l : List Str) (j : Nat) (va : Value) (wi : World) : Prop where
  blk : wi.heap[w1.heap.size]? = some (.cells (setCells va 0 false) 59 (0, 0))
  own : wi.ownsRow (w1.heap.size + 1) 21 1 va j (idxCells U (l.take j))
  bel : Below w1.heap.size w1 wi

theorem sinv_start (w1 : World) (U l : List Str) : SInv w1 U l 0 (.slice none 0 0) (w1.alloc (.cells (setCells (.slice none 0 0) 0 false) 59)) :=
  ⟨heap_alloc_new w1 _, World.ownsRow_nil _ _ _ _, (Below.refl _ _).alloc (Nat.le_refl _) _⟩

theorem cell_blk {w : World} {s i : Nat} {cs : Array Value} {t : TypeId} (h : w.heap[s]? = some (.cells cs t (0, 0))) : w.cell? ⟨s, i, none⟩ = cs[i]? := by simp [World.cell?, h]
theorem free_blk {w : World} {s i : Nat} {cs : Array Value} {t : TypeId} (h : w.heap[s]? = some (.cells cs t (0, 0))) : w.frozen? ⟨s, i, none⟩ = false := by simp [World.frozen?, h]

theorem SInv.size {w1 : World} {U l : List Str} {j : Nat} {va : Value} {wi : World} (h : SInv w1 U l j va wi) : w1.heap.size + 1 ≤ wi.heap.size := (Array.getElem?_eq_some_iff.1 h.blk).1

theorem SInv.step {w1 : World} {U l : List Str} {j : Nat} {va va' : Value} {wi w3 w4 : World} {o : Obj} {x : Str} (h : SInv w1 U l j va wi) (hb : Below wi.heap.size wi w3) (hg : (w3.alloc o).grownBy w4 va.ownBlock)
    (hown : w4.ownsRow (w1.heap.size + 1) 21 1 va' (j + 1) (idxCells U (l.take j) ++ [.int .i32 (below U x : Nat)])) (hl : l.take (j + 1) = l.take j ++ [x]) :
    w4.heap[w1.heap.size]? = some (.cells (setCells va 0 false) 59 (0, 0)) ∧ SInv w1 U l (j + 1) va' (w4.setCell ⟨w1.heap.size, 3, none⟩ va') := by
  have hsz := h.size
  have hb3 := hb.size
  have hne : some w1.heap.size ≠ va.ownBlock := fun e => by have := (h.own.lt _ e.symm).1; omega
  have h4 : w4.heap[w1.heap.size]? = some (.cells (setCells va 0 false) 59 (0, 0)) := by
    rw [hg.block _ (by simp; omega) hne, Below.heap_alloc _ _ _ (by omega), hb.block _ (by omega)]
    exact h.blk
  have hbel : Below w1.heap.size w1 w4 := ((h.bel.trans (hb.mono (by omega))).alloc (by omega) o).grown hg (by simp; omega) (fun i hi => by have := (h.own.lt i hi).1; omega)
  refine ⟨h4, ⟨?_, ?_, hbel.setCell (Nat.le_refl _) _⟩⟩
  · rw [heap_setCell_same w4 _ _ _ _ _ h4]
    rfl
  · rw [hl, idxCells_snoc]
    exact ownsRow_setCell_below hown (Nat.lt_succ_self _) _

/-- the set of a list of names, done -/
theorem SInv.done {w1 : World} {U l : List Str} {wi : World} {aa : Option Addr} {ca base : Nat} (h : SInv w1 U l l.length (.slice aa l.length ca) wi) (hi : IntsFrom wi (w1.heap.size + 1) aa l.length (fun j => (below U (l.getD j []) : Nat))) (hb : base ≤ w1.heap.size) :
    SetAt (wi.setCell ⟨w1.heap.size, 4, none⟩ (.int .i64 (l.length : Nat))) base w1.heap.size U false l := by
  refine ⟨aa, ca, hb, ?_, fun i hi' => ?_⟩
  · rw [heap_setCell_same wi _ _ _ _ _ h.blk]
    rfl
  · obtain ⟨b, off, h1, h2, h3⟩ := hi i hi'
    exact ⟨b, off, by omega, h2, by rw [World.cell?_setCell_other _ _ _ _ (by intro e; have e2 := congrArg Addr.block e; dsimp only at e2; omega)]; exact h3⟩

theorem set_every (w1 : World) (U l : List Str) (base : Nat) (hb : base ≤ w1.heap.size) : SetAt (w1.alloc (.cells (setCells (.slice none 0 0) 0 true) 59)) base w1.heap.size U true l :=
  ⟨none, 0, hb, heap_alloc_new w1 _, fun i hi => absurd hi (Nat.not_lt_zero _)⟩

theorem LInv.putNew {w : World} {p : Nat} {U : List Str} {av : Option Addr} {E : Nat → Bool} {N : Nat → List Str} {K : Nat → Str} {k : Nat} {w1 W w3 : World} (h : LInv w p U av E N K k w1) {s : Nat} {sb : Nat → Nat} {D : DataW Unit} {kx : Str} {e : Bool} {l : List Str} (hm : MapInv w1 (p + 1 + 1) K k sb D)
    (hs : ∀ i x, fi k K x = some i → SetAt w1 (p + 4) (sb i) U (E i) (N i)) (hW : Below w1.heap.size w1 W) (hkx : K k = kx) (he : E k = e) (hl : N k = l) (hf : fi k K kx = none) (hset : SetAt W (p + 4) s U e l)
    (hown : w3.ownsMap Try.prog 9 ptrElem (p + 1 + 1) (k + 1) (D.put (.string kx) (ptrD s))) (hg : W.grownBy w3 (some (p + 1 + 1))) : LInv w p U av E N K (k + 1) w3 := by
  subst hkx
  subst he
  subst hl
  exact (h.belowStep hW).put (hm.below hW) (fun i x hi => (hs i x hi).kept (r := p + 1 + 1) (grown_none (below_grown hW (Nat.le_refl _)) _) (by omega)) hf hset hown hg
end Go.Proofs.Qxb6605708a.Uni
