/-
  The accessors: ZZuniverseShape (15), ZZuniverseSet (17), ZZregionSetFields (18).
-/
import Derived.Test.Qxb6605708aUniNew
namespace Go.Proofs.Qxb6605708a.Uni
open Go.RowKit
set_option linter.unusedVariables false

/-- block bu is the book of n lists -/
def IsUniv (w : World) (bu : Nat) (U : List Str) (E : Nat → Bool) (N : Nat → List Str) (K : Nat → Str) (n : Nat) : Prop := ∃ w0 p av, bu = p + 1 + 1 + 1 ∧ LInv w0 p U av E N K n w

theorem IsUniv.below {w w' : World} {bu : Nat} {U : List Str} {E : Nat → Bool} {N : Nat → List Str} {K : Nat → Str} {n : Nat} (h : IsUniv w bu U E N K n) (hb : Below w.heap.size w w') : IsUniv w' bu U E N K n := by
  obtain ⟨w0, p, av, e, hI⟩ := h
  exact ⟨w0, p, av, e, hI.belowStep hb⟩

def ShapePost (U : List Str) (m : Nat) (w : World) (e : Ending) (w' : World) : Prop :=
  ∃ ao az, e = .returned (.tuple #[.slice ao U.length U.length, .slice az 1 1, .int .i64 ((U.length : Int) + 1), .int .i64 (m : Nat)]) ∧ Ints w' ao U.length (fun _ => 0) ∧ Ints w' az 1 (fun _ => (U.length : Int) + 1) ∧ Below w.heap.size w w'

theorem shape_any {w : World} {bu : Nat} {U : List Str} {E : Nat → Bool} {N : Nat → List Str} {K : Nat → Str} {n : Nat} (h : IsUniv w bu U E N K n) : Calls Try.prog 15 #[.pointer (some ⟨bu, 0, none⟩)] w (ShapePost U (cf K n) w) := by
  obtain ⟨w0, p, av, rfl, hI⟩ := h
  obtain ⟨sb, D, hm, hst⟩ := hI.sets
  have c0 : w.cell? ⟨p + 1 + 1 + 1, 0, none⟩ = some (.slice (some ⟨p, 0, none⟩) U.length U.length) := cell_blk hI.cells
  have c1 : w.cell? ⟨p + 1 + 1 + 1, 1, none⟩ = some (.slice (some ⟨p + 1, 0, none⟩) 1 1) := cell_blk hI.cells
  have c2 : w.cell? ⟨p + 1 + 1 + 1, 2, none⟩ = some (.int .i64 ((U.length : Int) + 1)) := cell_blk hI.cells
  have c3 : w.cell? ⟨p + 1 + 1 + 1, 3, none⟩ = some (.map (some (p + 1 + 1))) := cell_blk hI.cells
  have hln : ∀ q ty, (Builtin.len_ #[50] ty #[.map (some (p + 1 + 1))]).run Try.prog (w.drewN q) = .ok (.int .i64 (cf K n : Nat)) (w.drewN q) := fun q ty => (hm.below (draws w q)).len ty
  have h0 : Ints w (some ⟨p, 0, none⟩) U.length (fun _ => 0) := fun i hi => ⟨p, 0, rfl, by rw [Nat.zero_add]; exact hI.ofs.cell hi⟩
  have h1 : Ints w (some ⟨p + 1, 0, none⟩) 1 (fun _ => (U.length : Int) + 1) := by
    intro i hi
    obtain rfl : i = 0 := by omega
    exact ⟨p + 1, 0, rfl, cell_blk hI.siz⟩
  clear hst hm hI
  go_enter Try.func15, Try.ntmps15
  go_wp2_with fail
  go_quiet (fail)
  go_wp2
  refine bodyPost_ret (v := .tuple #[.slice (some ⟨p, 0, none⟩) U.length U.length, .slice (some ⟨p + 1, 0, none⟩) 1 1, .int .i64 ((U.length : Int) + 1), .int .i64 (cf K n : Nat)]) (by simp [results, Try.results15, go_sem]) rfl ?_
  exact ⟨_, _, rfl, h0.below (draws w _), h1.below (draws w _), draws w _⟩

theorem set_any {w : World} {bu : Nat} {U : List Str} {E : Nat → Bool} {N : Nat → List Str} {K : Nat → Str} {n : Nat} (h : IsUniv w bu U E N K n) (x : Str) (hx : List.length x ≤ 1048576) (f : Nat) (hf : fi n K x = some f) :
    Calls Try.prog 17 #[.pointer (some ⟨bu, 0, none⟩), sv x] w fun e w' => ∃ s base, e = .returned (.pointer (some ⟨s, 0, none⟩)) ∧ SetAt w base s U (E f) (N f) ∧ w' = w := by
  obtain ⟨w0, p, av, rfl, hI⟩ := h
  obtain ⟨sb, D, hm, hst⟩ := hI.sets
  have c3 : w.cell? ⟨p + 1 + 1 + 1, 3, none⟩ = some (.map (some (p + 1 + 1))) := cell_blk hI.cells
  have hlk := hm.look x (by unfold maxLen; omega)
  have hfd : found K n sb x = some ⟨sb f, 0, none⟩ := by unfold found; rw [hf]
  rw [hfd] at hlk
  have hset := hst f x hf
  clear hst hm hI hfd hf
  go_enter Try.func17, Try.ntmps17
  go_wp2
  go_ret
  exact ⟨_, _, rfl, hset, rfl⟩

def FieldsPost (U : List Str) (e : Bool) (l : List Str) (w : World) (r : Ending) (w' : World) : Prop :=
  ∃ aa ca, r = .returned (.tuple #[.slice none 0 0, .slice none 0 0, .slice none 0 0, .slice aa (setLen e l) ca, .int .i64 (setLen e l : Nat), .bool e]) ∧ Ints w' aa (setLen e l) (fun j => (below U (l.getD j []) : Nat)) ∧ Below w.heap.size w w'

theorem fields_any {w : World} {base s : Nat} {U : List Str} {e : Bool} {l : List Str} (h : SetAt w base s U e l) : Calls Try.prog 18 #[.pointer (some ⟨s, 0, none⟩)] w (FieldsPost U e l w) := by
  obtain ⟨aa, ca, hs, hb, hi⟩ := h
  have hi' := hi.ints
  generalize hm : setLen e l = m at *
  have c0 : w.cell? ⟨s, 0, none⟩ = some (.slice none 0 0) := cell_blk hb
  have c1 : w.cell? ⟨s, 1, none⟩ = some (.slice none 0 0) := cell_blk hb
  have c2 : w.cell? ⟨s, 2, none⟩ = some (.slice none 0 0) := cell_blk hb
  have c3 : w.cell? ⟨s, 3, none⟩ = some (.slice aa m ca) := cell_blk hb
  have c4 : w.cell? ⟨s, 4, none⟩ = some (.int .i64 (m : Nat)) := cell_blk hb
  have c5 : w.cell? ⟨s, 5, none⟩ = some (.bool e) := cell_blk hb
  have HM : Hid (setLen e l = m) := hm
  clear hm hb hi
  go_enter Try.func18, Try.ntmps18
  go_wp2_with fail
  go_quiet (fail)
  go_wp2
  refine bodyPost_ret (v := .tuple #[.slice none 0 0, .slice none 0 0, .slice none 0 0, .slice aa m ca, .int .i64 (m : Nat), .bool e]) (by simp [results, Try.results18, go_sem]) rfl ?_
  refine ⟨aa, ca, by rw [HM.out], ?_, draws w _⟩
  rw [HM.out]
  exact hi'.below (draws w _)

end Go.Proofs.Qxb6605708a.Uni
