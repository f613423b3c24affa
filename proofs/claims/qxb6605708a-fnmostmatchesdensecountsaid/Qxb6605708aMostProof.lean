/-
  'Rows.FnMostMatchesDenseCountSaid': the frame, after the shell that the guide's own proof-skeleton.mjs writes for the slices; the map (argument 3) added by hand.
-/
import Derived.Test.Qxb6605708aRows
import Derived.Test.Qxb6605708aMostLaw
import Derived.WalkKit
import Derived.ProofKit
import Derived.OpenShut
import Derived.ShutString
import Derived.ChangeOld
import Derived.Below
import Derived.Maps.OwnSet
namespace Go.Proofs.Qxb6605708a.fnMostMatchesDenseCount
open Go.ChangeShapes Go.WideShapes Go.ChangeAt Go.RowKit Go.WideElems
open Go.Proofs.Qxb6605708a.Most
set_option linter.unusedVariables false

theorem own : ownKnob Try.prog.godebug = none := by kernel_rfl
theorem laidOut : laidOutB Try.prog = true := by kernel_rfl
theorem key21 : Maps.Keyed Try.prog 21 := Maps.int_keyed Try.underlying21
theorem zero3 (w : World) : (zeroValue 3).run Try.prog w = .ok (.int .i64 0) w := by kernel_rfl

/-- WHAT THE WALK IS TOLD OF A SLICE OF INTEGERS THAT CAME IN. -/
theorem row_of {H : Type} {enc : TypeId × Value → H} {k : IntKind} {t e : TypeId} {W : World} {a : Option Addr} {len cap : Nat} {d : DataW H} {p : List MemPlace} {base : Nat} {sp : Nat → Bool} {held : Bool}
    (ht : Try.prog.underlying t = some (.slice e)) (he : Try.prog.underlying e = some (.int k)) (hc1 : Try.prog.cellsOf e = 1) (h : DataW.Trod enc Try.prog W base sp held t (.slice a len cap) d p) :
    ∃ f : Nat → Int, Row k W a len f ∧ ∀ i, i < len → (Lit.int k (f i)).wf = true := by
  obtain ⟨fuel, hf⟩ := h
  rcases open_ints ht he hc1 hf with ⟨hcs, _⟩ | ⟨x, l, c, zs, hcs, _, hl, hm, hz, _, hcell, hwz⟩
  · simp [Value.cells] at hcs
    obtain ⟨rfl, rfl, rfl⟩ := hcs
    exact ⟨fun _ => 0, fun i hi => absurd hi (Nat.not_lt_zero _), fun i hi => absurd hi (Nat.not_lt_zero _)⟩
  · simp [Value.cells] at hcs
    obtain ⟨rfl, rfl, rfl⟩ := hcs
    have hz' : len ≤ zs.length := by rw [hz]; split <;> omega
    refine ⟨fun i => zs.getD i 0, fun i hi => ?_, fun i hi => ?_⟩
    · obtain ⟨b, off, rfl, hc⟩ := ints_at hcell (by omega)
      exact ⟨b, off, rfl, hc i (by omega)⟩
    · refine hwz _ ?_
      show zs.getD i 0 ∈ zs
      rw [List.getD_eq_getElem?_getD, List.getElem?_eq_getElem (by omega)]
      exact List.getElem_mem _

/-- WHAT THE WALK IS TOLD OF THE MAP THAT CAME IN. -/
theorem map_of {H : Type} {enc : TypeId × Value → H} {W : World} {bm : Option Nat} {d : DataW H} {p : List MemPlace} {base : Nat} {sp : Nat → Bool} {held : Bool}
    (h : DataW.Trod enc Try.prog W base sp held 24 (.map bm) d p) : ∃ (M : Nat → Int) (L : Nat), MapIs W (.map bm) M ∧ LenIs W (.map bm) L := by
  have hk : ∀ x : Nat, x < 32768 → keyOf Try.prog 21 (.int .i32 x) = some (.int .i32 x) := fun x hx => Maps.keyOf_int_mk Try.underlying21 (WalkArith.wf_i32 (by omega))
  obtain ⟨fuel, hf⟩ := h
  rcases open_map Try.underlying24 hf with ⟨hcs, hx⟩ | ⟨b, es, clock, m, rfl, hcs, hb, _, F, hx⟩
  · simp [Value.cells] at hcs
    subst hcs
    exact ⟨fun _ => 0, 0, fun w' _ x hx => Maps.look_nil false key21 Try.underlying24 (zero3 _) (hk x hx), fun ty => Maps.len_nil Try.underlying24 ty⟩
  · simp [Value.cells] at hcs
    subst hcs
    have hown := World.ownsMap_of_fit (R := plainElem Try.prog 3) hb F (fun x _ z hz => elemAt_plainElem_int Try.underlying3 hz)
    generalize (DataW.map ((es.toList.map (rg Try.prog 21 (elemAt enc Try.prog W base sp held m 3))).foldr DataW.insert [])) = D at hown
    have hat : ∀ x : Nat, x < 32768 → ∃ c : Int, D.atKey (.int .i32 x) (.lit (.int .i64 0)) = .lit (.int .i64 c) := fun x hx => by
      obtain ⟨c, _, h2, _⟩ := hown.lookup_int key21 Try.underlying24 Try.underlying3 (zero3 _) (hk x hx)
      exact ⟨c, h2⟩
    refine ⟨fun x => if h : x < 32768 then Classical.choose (hat x h) else 0, Maps.size D, fun w' hbel x hx => ?_, fun ty => hown.len Try.underlying24 ty⟩
    have hown' : w'.ownsMap Try.prog 21 (plainElem Try.prog 3) b es.size D := by
      have hlt := hown.lt
      obtain ⟨es', clock', hb', r⟩ := hown
      exact ⟨es', clock', (hbel.block b hlt).trans hb', r⟩
    obtain ⟨c, h1, h2, _⟩ := hown'.lookup_int key21 Try.underlying24 Try.underlying3 (zero3 _) (hk x hx)
    have h3 := h2.symm.trans (Classical.choose_spec (hat x hx))
    simp only [DataW.lit.injEq, Lit.int.injEq, true_and] at h3
    show _ = Result.ok (Value.int IntKind.i64 (if h : x < 32768 then Classical.choose (hat x h) else 0)) w'
    rw [h1, dif_pos hx, ← h3]

theorem in32 {n : Nat} {f : Nat → Int} (h : ∀ i, i < n → (Lit.int .i32 (f i)).wf = true) : In32 n f := fun i hi => bounds_i32 (h i hi)

/-! ### THE ROW's STEP: WRITTEN OUT: LEAVE IT -/
set_option maxRecDepth 100000 in
theorem lifted (os : Os) (started : os.Started) (H : Type) (enc : TypeId × Value → H) :
    ReturnsInHanded {} Try.checked os 3 .any (Rows.fnMostMatchesDenseCountSpec.pre6 enc Try.prog Try.f3 Rows.fnMostMatchesDenseCountRow.domain false) (Rows.fnMostMatchesDenseCountSpec.post enc Try.prog Try.f3 false true false false) := by
  refine returnsInHanded_of_change (C := Try.checked) own started (by kernel_rfl) Try.func3
    (ChangeSpec.witness6 (enc := enc) (C := Try.checked) false ⟨#[], #[.slice none 0 0, .slice none 0 0, .slice none 0 0, .map none, .slice none 0 0, .slice none 0 0], []⟩ 8 (by kernel_rfl) (by kernel_rfl) (by kernel_rfl) (by kernel_rfl)) ?_
  intro W base args ds gs before hval0 hW hcnd _
  have hval : ∀ (j : Nat) t v, Try.f3.params[j]? = some t → args[j]? = some v → Value.okWide Try.prog W .any base t v := hval0
  have hW' := hW
  obtain ⟨p, q, hA0, hV, rfl, hfz, hnd⟩ := hW
  have hA : DataW.TrodAll enc Try.prog W 0 (fun _ => true) true Try.f3.params.toList args.toList ds p := hA0
  rw [Try.params3] at hA hval
  obtain ⟨v0, vs0, d0, ds0, p0, q0, hargs, rfl, rfl, h0, r0⟩ := trodAll_cons hA
  obtain ⟨v1, vs1, d1, ds1, p1, q1, rfl, rfl, rfl, h1, r1⟩ := trodAll_cons r0
  obtain ⟨v2, vs2, d2, ds2, p2, q2, rfl, rfl, rfl, h2, r2⟩ := trodAll_cons r1
  obtain ⟨v3, vs3, d3, ds3, p3, q3, rfl, rfl, rfl, h3, r3⟩ := trodAll_cons r2
  obtain ⟨v4, vs4, d4, ds4, p4, q4, rfl, rfl, rfl, h4, r4⟩ := trodAll_cons r3
  obtain ⟨v5, vs5, d5, ds5, p5, q5, rfl, rfl, rfl, h5, r5⟩ := trodAll_cons r4
  obtain ⟨rfl, rfl, rfl⟩ := trodAll_nil r5
  obtain rfl : args = #[v0, v1, v2, v3, v4, v5] := by cases args; simp_all
  obtain ⟨rfl, rfl⟩ := trodVars_none hV
  obtain ⟨a0, len0, cap0, rfl⟩ := okWide_slice Try.underlying22 (hval 0 22 v0 rfl rfl)
  have lt0 : ∀ x ∈ p0, x.block < W.heap.size := by obtain ⟨m, hm⟩ := h0; exact DataW.trod_lt m _ _ _ hm
  obtain ⟨f0, w0, b0⟩ := row_of Try.underlying22 Try.underlying21 (by kernel_rfl) h0
  obtain ⟨a1, len1, cap1, rfl⟩ := okWide_slice Try.underlying23 (hval 1 23 v1 rfl rfl)
  have lt1 : ∀ x ∈ p1, x.block < W.heap.size := by obtain ⟨m, hm⟩ := h1; exact DataW.trod_lt m _ _ _ hm
  obtain ⟨f1, w1, b1⟩ := row_of Try.underlying23 Try.underlying3 (by kernel_rfl) h1
  obtain ⟨a2, len2, cap2, rfl⟩ := okWide_slice Try.underlying23 (hval 2 23 v2 rfl rfl)
  have lt2 : ∀ x ∈ p2, x.block < W.heap.size := by obtain ⟨m, hm⟩ := h2; exact DataW.trod_lt m _ _ _ hm
  obtain ⟨f2, w2, b2⟩ := row_of Try.underlying23 Try.underlying3 (by kernel_rfl) h2
  obtain ⟨a4, len4, cap4, rfl⟩ := okWide_slice Try.underlying22 (hval 4 22 v4 rfl rfl)
  have lt4 : ∀ x ∈ p4, x.block < W.heap.size := by obtain ⟨m, hm⟩ := h4; exact DataW.trod_lt m _ _ _ hm
  obtain ⟨f4, w4, b4⟩ := row_of Try.underlying22 Try.underlying21 (by kernel_rfl) h4
  obtain ⟨a5, len5, cap5, rfl⟩ := okWide_slice Try.underlying22 (hval 5 22 v5 rfl rfl)
  have lt5 : ∀ x ∈ p5, x.block < W.heap.size := by obtain ⟨m, hm⟩ := h5; exact DataW.trod_lt m _ _ _ hm
  obtain ⟨f5, w5, b5⟩ := row_of Try.underlying22 Try.underlying21 (by kernel_rfl) h5
  obtain ⟨bm, rfl⟩ := okWide_map Try.underlying24 (hval 3 24 v3 rfl rfl)
  have lt3 : ∀ x ∈ p3, x.block < W.heap.size := by obtain ⟨m, hm⟩ := h3; exact DataW.trod_lt m _ _ _ hm
  obtain ⟨M, L, hM, hL⟩ := map_of h3
  clear hA0 hval0
  refine (law_any a0 a1 a2 a4 a5 len0 cap0 len1 cap1 len2 cap2 len4 cap4 len5 cap5 f0 f4 f5 f1 f2 M bm L W w0 w1 w2 w4 w5 (in32 b0) (in32 b4) (in32 b5) hM hL).mono fun e W' ⟨he, bel⟩ => ?_
  subst he
  exact ⟨_, rfl, _, _, _, [], _, [], hW', trodAll_mk1 (shut_bool Try.underlying4 _), (trodAll_cons_mk (Below.trod laidOut (by kernel_rfl) (of_decide_eq_true (by kernel_rfl)) h0 bel lt0) (trodAll_cons_mk (Below.trod laidOut (by kernel_rfl) (of_decide_eq_true (by kernel_rfl)) h1 bel lt1) (trodAll_cons_mk (Below.trod laidOut (by kernel_rfl) (of_decide_eq_true (by kernel_rfl)) h2 bel lt2) (trodAll_cons_mk (Below.trod laidOut (by kernel_rfl) (of_decide_eq_true (by kernel_rfl)) h3 bel lt3) (trodAll_cons_mk (Below.trod laidOut (by kernel_rfl) (of_decide_eq_true (by kernel_rfl)) h4 bel lt4) (trodAll_cons_mk (Below.trod laidOut (by kernel_rfl) (of_decide_eq_true (by kernel_rfl)) h5 bel lt5) trodAll_mk0)))))), rfl, bel.frame _, fun h => by cases h⟩

theorem over : Rows.fnMostMatchesDenseCountRow.holds Try.pinned (OpenSpec.ofChange Rows.fnMostMatchesDenseCountSpec) :=
  OpenClaim.holds_of_wide 3 Try.f3 rfl rfl rfl rfl rfl rfl rfl ⟨rfl, rfl, rfl, rfl, rfl⟩ rfl rfl rfl rfl rfl (by kernel_rfl) Try.func3 (by kernel_rfl)
    (of_decide_eq_true (by kernel_rfl)) (by unfold Func.isWrapper; first | (rw [if_pos (by decide +kernel)]; kernel_rfl) | (rw [if_neg (by decide +kernel)]; exact ⟨rfl, rfl⟩))
    (fun os started H enc _ => lifted os started H enc)

/-- ████ THE STATEMENT ████ -/
theorem proved : Rows.FnMostMatchesDenseCountSaid := over
#print axioms proved
end Go.Proofs.Qxb6605708a.fnMostMatchesDenseCount
