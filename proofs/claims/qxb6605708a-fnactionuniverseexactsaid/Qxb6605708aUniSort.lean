/-
  append from whatever slice onto a row of the call's own; the library's Sort (28) and Compact (29) at such a row.
-/
import Derived.Test.Qxb6605708aUniDist
import Derived.Sort.OwnSorted
import Derived.Laws.AppendOwnNone
namespace Go.Proofs.Qxb6605708a.Uni
open Go.RowKit Go.Sort
set_option linter.unusedVariables false

/-- 'append(out, xs...)', out the call's own, xs whatever slice: nil, empty or not. -/
theorem wpList_append_own_src {P : Program} (w : World) {ops : Array Oper} {rest : List Oper} {o : Oper} {a : Act} {Q : Exit → Act → World → Prop} (hgd : o.guard = none) (s x : Operand) (t : TypeId)
    (ho : o.op = .call { callee := .builtin .append, args := #[s, x], argTypes := #[t, t] })
    (base : Nat) (e : TypeId) (i : TypeInfo) (z : Value) (size bytes : Nat) (ht : P.underlying t = some (.slice e)) (hi : P.info? e = some i) (hz : i.zero = some z)
    (hsize : i.size = size) (hby : i.bytes = bytes) (hzs : z.cells.size = size) (hsz : 0 < size)
    (v : Value) (n : Nat) (xs : List Value) (hs : a.eval s = v) (hown : w.ownsRow base e size v n xs)
    (ao : Option Addr) (m c : Nat) (news : List Value) (hx : a.eval x = .slice ao m c) (hl : news.length = m * size) (hnone : ao = none → m = 0 ∧ c = 0) (hnews : ∀ ad, ao = some ad → ∀ j u, news[j]? = some u → w.cell? (ad.add j) = some u) (h1 : ∀ u ∈ news, u.oneCell' = true)
    (h63 : n + m ≤ maxLen) (hbytes : (n + m) * bytes ≤ 140737488355328) (hbase : base ≤ w.heap.size)
    (h : ∀ v' w', w'.ownsRow base e size v' (n + m) (xs ++ news) → w.grownBy w' v.ownBlock → wpList P ops Q rest (a.put o.dst v') w') : wpList P ops Q (o :: rest) a w := by
  cases ao with
  | some ad => exact wpList_append_own w hgd s x t ho base e i z size bytes ht hi hz hsize hby hzs hsz v n xs hs hown ad m c news hx hl (hnews ad rfl) h1 h63 hbytes hbase fun v' w' h2 h3 _ => h v' w' h2 h3
  | none =>
    obtain ⟨rfl, rfl⟩ := hnone rfl
    have hn : news = [] := List.eq_nil_of_length_eq_zero (by simpa using hl)
    subst hn
    exact wpList_append_own_none hgd s x t ho base e i size ht hi v n xs hs hown hx (h v w (by simpa using hown) (World.grownBy.refl _ _))

theorem strs_news {w : World} {ai : Option Addr} {l : List Str} (hs : Strs w ai l) : ∀ ad, ai = some ad → ∀ j u, (strCellsL l)[j]? = some u → w.cell? (ad.add j) = some u := by
  intro ad had j u hu
  have hj : j < l.length := by have := (List.getElem?_eq_some_iff.1 hu).1; simpa [strCellsL] using this
  obtain ⟨b, off, he, hc⟩ := hs j hj
  rw [he] at had
  obtain rfl := Option.some.inj had
  rw [Addr.add_lit, hc]
  rw [← hu]
  simp [strCellsL, hj, List.getD_eq_getElem?_getD]

theorem strs_one (l : List Str) : ∀ u ∈ strCellsL l, u.oneCell' = true := by
  intro u hu
  obtain ⟨x, _, rfl⟩ := List.mem_map.1 hu
  rfl

theorem srt_nil : srt [] = [] := by simp [srt]
theorem uni_nil : uni [] = [] := by unfold uni; rw [srt_nil]; rfl

theorem sort_own {base : Nat} {w : World} {v : Value} {l : List Str} (hown : w.ownsRow base 9 1 v l.length (strCellsL l)) (hl : l.length ≤ 1048576) :
    Calls Try.prog 28 #[v] w fun e w' => e = .returned (.tuple #[]) ∧ w'.ownsRow base 9 1 v l.length (strCellsL (srt l)) ∧ w.grownBy w' v.ownBlock := by
  rcases hown.2 with ⟨rfl, h0⟩ | ⟨g, cap, cur, rfl, hb, hg, hnc, hcm, hcs, htake⟩
  · obtain rfl : l = [] := List.eq_nil_of_length_eq_zero h0
    refine (Try.slices_Sort_string_none none 0 w).mono fun e w' ⟨he, hw⟩ => ⟨he, ?_, ?_⟩
    · rw [hw, srt_nil]; exact hown
    · rw [hw]; exact World.grownBy.refl _ _
  · have hH : Holds encStr w g 0 l.toArray := holds_of_block hg (by rw [Nat.mul_one] at htake; exact htake)
    refine (Try.slices_Sort_string g 0 cap l w hH (Array.getElem?_eq_some_iff.1 hg).1 (by omega)).mono fun e w' ⟨he, n, os, hw⟩ => ⟨he, ?_, ?_⟩
    · rw [hw]
      exact ownsRow_sorted (ts := srt l) (srt_length l) hb hg hnc hcm hcs
    · rw [hw]
      exact grownBy_sorted _

theorem grow_none (w : World) : grow w #[] = w := by simp [grow]

theorem own_shrink {w : World} {base g n cap m : Nat} {e : TypeId} {xs : List Value} (h : w.ownsRow base e 1 (.slice (some ⟨g, 0, none⟩) n cap) n xs) (hm : m ≤ n) : w.ownsRow base e 1 (.slice (some ⟨g, 0, none⟩) m cap) m (xs.take m) := by
  rcases h.2 with ⟨h', _⟩ | ⟨g', cap', cur, h', hb, hg, hnc, hcm, hcs, htake⟩
  · simp at h'
  · simp only [Value.slice.injEq, Option.some.injEq, Addr.mk.injEq, and_true, true_and] at h'
    obtain ⟨rfl, rfl⟩ := h'
    have hl := h.1
    refine ⟨by simp; omega, .inr ⟨g, cap, cur, rfl, hb, hg, by omega, hcm, hcs, ?_⟩⟩
    rw [← htake, List.take_take]
    congr 1
    omega

theorem compact_len (l : List Str) : (Lib.compact (srt l)).length ≤ (srt l).length := by
  have := uni_length_le l
  rw [← srt_length l] at this
  exact this

theorem compact_own {base : Nat} {w : World} {v : Value} {l : List Str} (hown : w.ownsRow base 9 1 v l.length (strCellsL (srt l))) (hl : l.length ≤ 1048576) :
    Calls Try.prog 29 #[v] w fun e w' => ∃ v', e = .returned v' ∧ w'.ownsRow base 9 1 v' (uni l).length (strCellsL (uni l)) ∧ w.grownBy w' v.ownBlock := by
  rcases hown.2 with ⟨rfl, h0⟩ | ⟨g, cap, cur, rfl, hb, hg, hnc, hcm, hcs, htake⟩
  · obtain rfl : l = [] := List.eq_nil_of_length_eq_zero h0
    refine (Try.slices_Compact_string_empty none 0 w).mono fun e w' ⟨he, hw⟩ => ⟨_, he, ?_, ?_⟩
    · rw [hw, uni_nil]; exact World.ownsRow_nil _ _ _ _
    · rw [hw]; exact World.grownBy.refl _ _
  · have hsl := srt_length l
    have hH : Holds encStr w g 0 (srt l).toArray := holds_of_block hg (by rw [Nat.mul_one, ← hsl] at htake; exact htake)
    have hcl := compact_len l
    have hc := Try.slices_Compact_string g 0 cap (srt l) w hH (by omega) (by omega)
    rw [hsl] at hc
    refine hc.mono fun e w' ⟨he, q, hw⟩ => ⟨_, he, ?_, ?_⟩
    · have h1 := ownsRow_sorted (n := q) (os := #[]) (ss := srt l) (ts := Lib.compact (srt l) ++ List.replicate (l.length - (Lib.compact (srt l)).length) []) (by simp; omega) hb hg (by rw [hsl]; exact hnc) hcm hcs
      rw [grow_none] at h1
      have h2 := own_shrink h1 (m := (Lib.compact (srt l)).length) hcl
      rw [hw]
      rw [List.map_append, List.take_left' (by simp)] at h2
      exact h2
    · rw [hw]
      have h1 := grownBy_sorted (w := w) (g := g) (n := q) (os := #[]) (Lib.compact (srt l) ++ List.replicate (l.length - (Lib.compact (srt l)).length) []).toArray
      rw [grow_none] at h1
      exact h1
end Go.Proofs.Qxb6605708a.Uni
