/-
  The plain mathematics of the two laws on action universes: lists of byte strings. No Go in sight.
-/
import Derived.Sort.KeysCollected
import Derived.Lib.SlicesCompact
import Derived.Lib.Join
import Derived.Shelf.Spec.SearchS
namespace Go.Proofs.Qxb6605708a.Uni
open Go.Lib (compact compactUpTo compactUpTo_succ keeps bsGo bsGo_spec joinTail join_cons)

abbrev Str := List UInt8

/-! ### the order of strings -/
theorem lt_of_le_ne {a b : Str} (h : a ≤ b) (hn : a ≠ b) : a < b := by
  rcases Classical.em (a < b) with h' | h'
  · exact h'
  · exact absurd (List.le_antisymm h (List.not_lt.1 h')) hn
theorem le_lt {a b c : Str} (h : a ≤ b) (h' : b < c) : a < c := by
  rcases Classical.em (a < c) with hc | hc
  · exact hc
  · exact absurd (List.le_trans (List.not_lt.1 hc) h) (List.not_le.2 h')
theorem lt_lt {a b c : Str} (h : a < b) (h' : b < c) : a < c := List.lt_trans h h'
theorem lt_ne {a b : Str} (h : a < b) : a ≠ b := fun e => by subst e; exact List.lt_irrefl _ h

/-! ### distinct things, in the order of their first appearance -/
def has (l : List Str) (x : Str) : Bool := decide (x ∈ l)
def addD (o : List Str) (x : Str) : List Str := if has o x = true then o else o ++ [x]
theorem addD_yes {o : List Str} {x : Str} (h : has o x = true) : addD o x = o := if_pos h
theorem addD_no {o : List Str} {x : Str} (h : has o x = false) : addD o x = o ++ [x] := if_neg (by rw [h]; simp)

theorem mem_addD {o : List Str} {x y : Str} : y ∈ addD o x ↔ y ∈ o ∨ y = x := by
  unfold addD has
  by_cases h : x ∈ o
  · simp only [h, decide_true, if_true]
    exact ⟨Or.inl, fun h' => h'.elim id (fun e => e ▸ h)⟩
  · simp [h]
theorem nodup_addD {o : List Str} {x : Str} (h : o.Nodup) : (addD o x).Nodup := by
  unfold addD has
  by_cases hx : x ∈ o
  · simpa [hx] using h
  · simp only [hx, decide_false]
    rw [if_neg (by simp)]
    refine List.nodup_append.2 ⟨h, by simp, ?_⟩
    intro a ha b hb e
    simp at hb
    subst hb
    exact hx (e ▸ ha)

/-- the names of l added to o -/
def addL (o : List Str) (l : List Str) : List Str := l.foldl addD o
theorem addL_snoc (o l : List Str) (x : Str) : addL o (l ++ [x]) = addD (addL o l) x := by simp [addL]
theorem mem_addL {l o : List Str} {y : Str} : y ∈ addL o l ↔ y ∈ o ∨ y ∈ l := by
  induction l generalizing o with
  | nil => simp [addL]
  | cons x l ih =>
    show y ∈ addL (addD o x) l ↔ _
    rw [ih, mem_addD]
    simp [or_assoc]
theorem nodup_addL {l o : List Str} (h : o.Nodup) : (addL o l).Nodup := by
  induction l generalizing o with
  | nil => exact h
  | cons x l ih => exact ih (nodup_addD h)

/-- all names of the first k lists, one behind the other -/
def flat (N : Nat → List Str) : Nat → List Str
  | 0 => []
  | k + 1 => flat N k ++ N k
/-- the distinct names of the first k lists -/
def dn (N : Nat → List Str) : Nat → List Str
  | 0 => []
  | k + 1 => addL (dn N k) (N k)
theorem dn_succ (N : Nat → List Str) (k : Nat) : dn N (k + 1) = addL (dn N k) (N k) := rfl
theorem flat_succ (N : Nat → List Str) (k : Nat) : flat N (k + 1) = flat N k ++ N k := rfl

theorem mem_dn {N : Nat → List Str} {k : Nat} {x : Str} : x ∈ dn N k ↔ x ∈ flat N k := by
  induction k with
  | zero => simp [dn, flat]
  | succ k ih => rw [dn_succ, flat_succ, mem_addL, ih, List.mem_append]
theorem nodup_dn (N : Nat → List Str) (k : Nat) : (dn N k).Nodup := by
  induction k with
  | zero => simp [dn]
  | succ k ih => exact nodup_addL ih

theorem mem_flat {N : Nat → List Str} {k : Nat} {x : Str} : x ∈ flat N k ↔ ∃ i, i < k ∧ x ∈ N i := by
  induction k with
  | zero => simp [flat]
  | succ k ih =>
    rw [flat_succ, List.mem_append, ih]
    constructor
    · rintro (⟨i, hi, hx⟩ | hx)
      · exact ⟨i, by omega, hx⟩
      · exact ⟨k, by omega, hx⟩
    · rintro ⟨i, hi, hx⟩
      by_cases e : i = k
      · subst e; exact .inr hx
      · exact .inl ⟨i, by omega, hx⟩

/-! ### the sorted, compacted list -/
theorem pw_mono {R S : Str → Str → Prop} (h : ∀ a b, R a b → S a b) : ∀ l : List Str, l.Pairwise R → l.Pairwise S
  | [], _ => List.Pairwise.nil
  | _ :: r, hp => List.pairwise_cons.2 ⟨fun y hy => h _ _ ((List.pairwise_cons.1 hp).1 y hy), pw_mono h r (List.pairwise_cons.1 hp).2⟩
def srt (l : List Str) : List Str := l.mergeSort fun x y => decide (x ≤ y)
def uni (l : List Str) : List Str := compact (srt l)

theorem srt_sorted (l : List Str) : (srt l).Pairwise (· ≤ ·) := by
  have h := List.pairwise_mergeSort (le := fun x y : Str => decide (x ≤ y)) (fun a b c h1 h2 => by simp only [decide_eq_true_eq] at *; exact List.le_trans h1 h2) (fun a b => by simp only [Bool.or_eq_true, decide_eq_true_eq]; exact List.le_total a b) l
  exact pw_mono (fun a b h => by simpa using h) _ h
theorem mem_srt {l : List Str} {x : Str} : x ∈ srt l ↔ x ∈ l := List.mem_mergeSort
theorem srt_length (l : List Str) : (srt l).length = l.length := (List.mergeSort_perm l _).length_eq

theorem compactUpTo_sorted (d : Array Str) (hs : ∀ i j, i < j → j < d.size → d[i]! ≤ d[j]!) : ∀ m, m ≤ d.size → (compactUpTo d m).Pairwise (· < ·) ∧ ∀ x, x ∈ compactUpTo d m ↔ ∃ j, j < m ∧ d[j]! = x := by
  intro m
  induction m with
  | zero => intro _; simp [compactUpTo]
  | succ m ih =>
    intro hm
    obtain ⟨h1, h2⟩ := ih (by omega)
    rw [compactUpTo_succ]
    by_cases hk : keeps d m = true
    · rw [if_pos hk]
      constructor
      · refine List.pairwise_append.2 ⟨h1, by simp, fun a ha b hb => ?_⟩
        simp at hb
        subst hb
        obtain ⟨j, hj, rfl⟩ := (h2 a).1 ha
        simp only [keeps, decide_eq_true_eq] at hk
        rcases hk with hk | hk
        · omega
        · have hle : d[j]! ≤ d[m - 1]! := by
            by_cases e : j = m - 1
            · rw [e]; exact List.le_refl _
            · exact hs j (m - 1) (by omega) (by omega)
          exact le_lt hle (lt_of_le_ne (hs (m - 1) m (by omega) (by omega)) (fun e => hk e.symm))
      · intro x
        rw [List.mem_append, h2]
        simp only [List.mem_singleton]
        constructor
        · rintro (⟨j, hj, e⟩ | e)
          · exact ⟨j, by omega, e⟩
          · exact ⟨m, by omega, e.symm⟩
        · rintro ⟨j, hj, e⟩
          by_cases ej : j = m
          · subst ej; exact .inr e.symm
          · exact .inl ⟨j, by omega, e⟩
    · rw [if_neg hk, List.append_nil]
      refine ⟨h1, fun x => ?_⟩
      rw [h2]
      simp only [keeps, decide_eq_true_eq] at hk
      constructor
      · rintro ⟨j, hj, e⟩; exact ⟨j, by omega, e⟩
      · rintro ⟨j, hj, e⟩
        by_cases ej : j = m
        · subst ej
          have h0 : j ≠ 0 := fun e => hk (.inl e)
          have he : d[j]! = d[j - 1]! := Classical.byContradiction fun e => hk (.inr e)
          exact ⟨j - 1, by omega, by rw [← he]; exact e⟩
        · exact ⟨j, by omega, e⟩

theorem uni_spec (l : List Str) : (uni l).Pairwise (· < ·) ∧ ∀ x, x ∈ uni l ↔ x ∈ l := by
  have hs := srt_sorted l
  have h := compactUpTo_sorted (srt l).toArray (fun i j hij hj => by
    have hj' : j < (srt l).length := by simpa using hj
    have := List.pairwise_iff_getElem.1 hs i j (by omega) hj' hij
    simpa [getElem!_pos, hj', show i < (srt l).length by omega] using this) (srt l).length (by simp)
  refine ⟨h.1, fun x => ?_⟩
  show x ∈ compactUpTo (srt l).toArray (srt l).length ↔ _
  rw [h.2, ← mem_srt (l := l), List.mem_iff_getElem]
  constructor
  · rintro ⟨j, hj, e⟩; exact ⟨j, hj, by simpa [getElem!_pos, hj] using e⟩
  · rintro ⟨j, hj, e⟩; exact ⟨j, hj, by simpa [getElem!_pos, hj] using e⟩

theorem uni_nodup (l : List Str) : (uni l).Nodup := pw_mono (fun _ _ h => lt_ne h) _ (uni_spec l).1

theorem dn_perm (N : Nat → List Str) (k : Nat) : (dn N k).Perm (uni (flat N k)) := (List.perm_ext_iff_of_nodup (nodup_dn N k) (uni_nodup _)).2 fun x => by rw [mem_dn, (uni_spec _).2]

theorem uni_perm {l l' : List Str} (h : l.Perm l') : uni l = uni l' := by
  unfold uni srt
  rw [show (fun x y : Str => decide (x ≤ y)) = leB from rfl, mergeSort_of_perm h]

theorem uni_length_le (l : List Str) : (uni l).length ≤ l.length := by
  have : (uni l).length ≤ (srt l).length := by
    unfold uni compact compactUpTo
    rw [List.length_map]
    have := List.length_filter_le (keeps (srt l).toArray) (List.range (srt l).length)
    simpa using this
  rw [srt_length] at this
  exact this

/-! ### how many are below x -/
def below (l : List Str) (x : Str) : Nat := l.countP fun y => decide (y < x)
theorem below_perm {l l' : List Str} (h : l.Perm l') (x : Str) : below l x = below l' x := h.countP_eq _
theorem below_le (l : List Str) (x : Str) : below l x ≤ l.length := List.countP_le_length

theorem below_sorted (x : Str) : ∀ (U : List Str), U.Pairwise (· < ·) → ∀ t, t < U.length → (U.getD t [] < x ↔ t < below U x)
  | [], _, t, ht => absurd ht (Nat.not_lt_zero _)
  | y :: r, h, t, ht => by
    obtain ⟨h1, h2⟩ := List.pairwise_cons.1 h
    unfold below
    by_cases hy : y < x
    · rw [List.countP_cons_of_pos (by simpa using hy)]
      cases t with
      | zero => simpa using hy
      | succ t =>
        have := below_sorted x r h2 t (by simpa using ht)
        unfold below at this
        simp only [List.getD_cons_succ]
        rw [this]
        omega
    · rw [List.countP_cons_of_neg (by simpa using hy)]
      have h0 : List.countP (fun z => decide (z < x)) r = 0 := by
        rw [List.countP_eq_zero]
        intro z hz
        simp only [decide_eq_true_eq]
        intro hzx
        exact hy (lt_lt (h1 z hz) hzx)
      rw [h0]
      constructor
      · intro ht'
        exfalso
        cases t with
        | zero => exact hy (by simpa using ht')
        | succ t =>
          have ht2 : t < r.length := by simpa using ht
          have hm : r.getD t [] ∈ r := by rw [List.getD_eq_getElem?_getD, List.getElem?_eq_getElem ht2]; exact List.getElem_mem _
          exact hy (lt_lt (h1 _ hm) (by simpa using ht'))
      · intro h; omega

/-- what the library's halving finds -/
theorem search (U : List Str) (x : Str) (hU : U.Pairwise (· < ·)) (less : Nat → Bool) (h1 : ∀ t, t < U.length → less t = decide (U.getD t [] < x)) (h2 : ∀ t, U.length ≤ t → less t = false) : bsGo less U.length 0 U.length = below U x := by
  refine bsGo_spec less (below U x) (fun t ht => ?_) (fun t ht => ?_) _ _ _ (by omega) (Nat.zero_le _) (below_le U x)
  · have := below_le U x
    rw [h1 t (by omega), decide_eq_true_eq]
    exact (below_sorted x U hU t (by omega)).2 ht
  · by_cases hl : t < U.length
    · rw [h1 t hl, decide_eq_false_iff_not]
      intro h
      have := (below_sorted x U hU t hl).1 h
      omega
    · exact h2 t (by omega)

/-! ### keys -/
def key (e : Bool) (l : List Str) : Str := if e = true then [42] else Lib.join l [44]

/-- the first index below k at which K is 'key' -/
def fi : Nat → (Nat → Str) → Str → Option Nat
  | 0, _, _ => none
  | k + 1, K, x => match fi k K x with
    | some i => some i
    | none => if K k = x then some k else none

theorem fi_succ_some {k : Nat} {K : Nat → Str} {x : Str} {i : Nat} (h : fi k K x = some i) : fi (k + 1) K x = some i := by simp [fi, h]
theorem fi_succ_none {k : Nat} {K : Nat → Str} {x : Str} (h : fi k K x = none) : fi (k + 1) K x = if K k = x then some k else none := by simp [fi, h]

theorem fi_none {k : Nat} {K : Nat → Str} {x : Str} : fi k K x = none ↔ ∀ j, j < k → K j ≠ x := by
  induction k with
  | zero => simp [fi]
  | succ k ih =>
    cases h : fi k K x with
    | some i =>
      rw [fi_succ_some h]
      have : ¬ ∀ j, j < k → K j ≠ x := fun hh => by rw [ih.2 hh] at h; cases h
      simp only [reduceCtorEq, false_iff]
      exact fun hh => this fun j hj => hh j (by omega)
    | none =>
      rw [fi_succ_none h]
      have h' := ih.1 h
      by_cases e : K k = x
      · rw [if_pos e]
        simp only [reduceCtorEq, false_iff]
        exact fun hh => hh k (by omega) e
      · rw [if_neg e]
        simp only [true_iff]
        intro j hj
        by_cases ej : j = k
        · subst ej; exact e
        · exact h' j (by omega)

theorem fi_some {k : Nat} {K : Nat → Str} {x : Str} {i : Nat} (h : fi k K x = some i) : i < k ∧ K i = x ∧ ∀ j, j < i → K j ≠ x := by
  induction k with
  | zero => simp [fi] at h
  | succ k ih =>
    cases h' : fi k K x with
    | some i' =>
      rw [fi_succ_some h'] at h
      cases h
      obtain ⟨h1, h2, h3⟩ := ih h'
      exact ⟨by omega, h2, h3⟩
    | none =>
      rw [fi_succ_none h'] at h
      by_cases e : K k = x
      · rw [if_pos e] at h
        cases h
        exact ⟨by omega, e, fi_none.1 h'⟩
      · rw [if_neg e] at h; cases h

/-- the first index with the key of i -/
def fw (K : Nat → Str) (i : Nat) : Nat := match fi i K (K i) with
  | some j => j
  | none => i

theorem fw_spec (K : Nat → Str) (i : Nat) : fw K i ≤ i ∧ K (fw K i) = K i ∧ ∀ j, j < fw K i → K j ≠ K i := by
  unfold fw
  cases h : fi i K (K i) with
  | some j =>
    obtain ⟨h1, h2, h3⟩ := fi_some h
    exact ⟨Nat.le_of_lt h1, h2, h3⟩
  | none => exact ⟨Nat.le_refl _, rfl, fi_none.1 h⟩

theorem fi_eq {n : Nat} {K : Nat → Str} {x : Str} {i : Nat} (h1 : i < n) (h2 : K i = x) (h3 : ∀ j, j < i → K j ≠ x) : fi n K x = some i := by
  cases h : fi n K x with
  | none => exact absurd h2 (fi_none.1 h i h1)
  | some j =>
    obtain ⟨j1, j2, j3⟩ := fi_some h
    by_cases e : i = j
    · rw [e]
    · rcases Nat.lt_or_ge i j with hl | hl
      · exact absurd h2 (j3 i hl)
      · exact absurd j2 (h3 j (by omega))

theorem fi_fw {n : Nat} {K : Nat → Str} {i : Nat} (hi : i < n) : fi n K (K i) = some (fw K i) := by
  obtain ⟨h1, h2, h3⟩ := fw_spec K i
  exact fi_eq (by omega) h2 h3

/-- how many indices are the first of their key -/
def cf (K : Nat → Str) : Nat → Nat
  | 0 => 0
  | k + 1 => cf K k + if fi k K (K k) = none then 1 else 0
theorem cf_succ (K : Nat → Str) (k : Nat) : cf K (k + 1) = cf K k + if fi k K (K k) = none then 1 else 0 := rfl
theorem cf_le (K : Nat → Str) (k : Nat) : cf K k ≤ k := by
  induction k with
  | zero => exact Nat.le_refl _
  | succ k ih => rw [cf_succ]; split <;> omega

theorem fw_first {K : Nat → Str} {i : Nat} : fw K i = i ↔ fi i K (K i) = none := by
  unfold fw
  cases h : fi i K (K i) with
  | none => simp
  | some j =>
    have := (fi_some h).1
    simp only [reduceCtorEq, iff_false]
    omega

/-- the distinct keys -/
def dk (K : Nat → Str) : Nat → List Str
  | 0 => []
  | k + 1 => addD (dk K k) (K k)
theorem mem_dk {K : Nat → Str} {n : Nat} {x : Str} : x ∈ dk K n ↔ ∃ i, i < n ∧ K i = x := by
  induction n with
  | zero => simp [dk]
  | succ n ih =>
    show x ∈ addD (dk K n) (K n) ↔ _
    rw [mem_addD, ih]
    constructor
    · rintro (⟨i, hi, e⟩ | e)
      · exact ⟨i, by omega, e⟩
      · exact ⟨n, by omega, e.symm⟩
    · rintro ⟨i, hi, e⟩
      by_cases ei : i = n
      · subst ei; exact .inr e.symm
      · exact .inl ⟨i, by omega, e⟩
theorem nodup_dk (K : Nat → Str) (n : Nat) : (dk K n).Nodup := by
  induction n with
  | zero => simp [dk]
  | succ n ih => exact nodup_addD ih
theorem cf_dk (K : Nat → Str) (n : Nat) : cf K n = (dk K n).length := by
  induction n with
  | zero => rfl
  | succ n ih =>
    rw [cf_succ, ih]
    show _ = (addD (dk K n) (K n)).length
    by_cases h : K n ∈ dk K n
    · rw [addD_yes (by simp [has, h])]
      obtain ⟨i, hi, e⟩ := mem_dk.1 h
      rw [if_neg (fun hn => fi_none.1 hn i hi e)]
      omega
    · rw [addD_no (by simp [has, h])]
      rw [if_pos (fi_none.2 fun j hj e => h (mem_dk.2 ⟨j, hj, e⟩))]
      simp
theorem cf_rev (K K' : Nat → Str) (n : Nat) (h : ∀ i, i < n → K' i = K (n - 1 - i)) : cf K' n = cf K n := by
  rw [cf_dk, cf_dk]
  refine List.Perm.length_eq ((List.perm_ext_iff_of_nodup (nodup_dk K' n) (nodup_dk K n)).2 fun x => ?_)
  rw [mem_dk, mem_dk]
  constructor
  · rintro ⟨i, hi, e⟩; exact ⟨n - 1 - i, by omega, by rw [← h i hi]; exact e⟩
  · rintro ⟨i, hi, e⟩; exact ⟨n - 1 - i, by omega, by rw [h _ (by omega), show n - 1 - (n - 1 - i) = i by omega]; exact e⟩

/-! ### reversing the lists -/
theorem flat_rev_mem {N N' : Nat → List Str} {n : Nat} (h : ∀ i, i < n → N' i = N (n - 1 - i)) (x : Str) : x ∈ flat N' n ↔ x ∈ flat N n := by
  rw [mem_flat, mem_flat]
  constructor
  · rintro ⟨i, hi, e⟩; exact ⟨n - 1 - i, by omega, by rw [← h i hi]; exact e⟩
  · rintro ⟨i, hi, e⟩; exact ⟨n - 1 - i, by omega, by rw [h _ (by omega), show n - 1 - (n - 1 - i) = i by omega]; exact e⟩

/-- two strictly rising lists with the same members are one -/
theorem rising_eq {l l' : List Str} (h : l.Pairwise (· < ·)) (h' : l'.Pairwise (· < ·)) (hm : ∀ x, x ∈ l ↔ x ∈ l') : l = l' := by
  have hp : l.Perm l' := (List.perm_ext_iff_of_nodup (pw_mono (fun _ _ h => lt_ne h) _ h) (pw_mono (fun _ _ h => lt_ne h) _ h')).2 hm
  exact hp.eq_of_pairwise (le := (· < ·)) (fun a b _ _ h1 h2 => absurd (lt_lt h1 h2) (List.lt_irrefl _)) h h'

theorem uni_rev {N N' : Nat → List Str} {n : Nat} (h : ∀ i, i < n → N' i = N (n - 1 - i)) : uni (flat N' n) = uni (flat N n) :=
  rising_eq (uni_spec _).1 (uni_spec _).1 fun x => by rw [(uni_spec _).2, (uni_spec _).2, flat_rev_mem h]

/-! ### well-formed names: a list's text tells it apart -/
structure OkName (x : Str) : Prop where
  ne : x ≠ []
  star : x ≠ [42]
  comma : ∀ c ∈ x, c ≠ 44

theorem tail_head (r : List Str) : joinTail [44] r = [] ∨ ∃ t, joinTail [44] r = 44 :: t := by
  cases r with
  | nil => exact .inl rfl
  | cons x r => exact .inr ⟨x ++ joinTail [44] r, by simp [joinTail]⟩

theorem cut_comma : ∀ (x y s t : Str), (∀ c ∈ x, c ≠ 44) → (∀ c ∈ y, c ≠ 44) → (s = [] ∨ ∃ u, s = 44 :: u) → (t = [] ∨ ∃ u, t = 44 :: u) → x ++ s = y ++ t → x = y ∧ s = t
  | [], [], s, t, _, _, _, _, h => ⟨rfl, by simpa using h⟩
  | [], c :: y, s, t, _, hy, hs, _, h => by
    exfalso
    rcases hs with rfl | ⟨u, rfl⟩
    · simp at h
    · simp only [List.nil_append, List.cons_append, List.cons.injEq] at h
      exact hy c (by simp) h.1.symm
  | c :: x, [], s, t, hx, _, _, ht, h => by
    exfalso
    rcases ht with rfl | ⟨u, rfl⟩
    · simp at h
    · simp only [List.nil_append, List.cons_append, List.cons.injEq] at h
      exact hx c (by simp) h.1
  | c :: x, d :: y, s, t, hx, hy, hs, ht, h => by
    simp only [List.cons_append, List.cons.injEq] at h
    obtain ⟨e1, e2⟩ := cut_comma x y s t (fun a ha => hx a (by simp [ha])) (fun a ha => hy a (by simp [ha])) hs ht h.2
    exact ⟨by rw [h.1, e1], e2⟩

theorem tail_inj : ∀ (r r' : List Str), (∀ x ∈ r, OkName x) → (∀ x ∈ r', OkName x) → joinTail [44] r = joinTail [44] r' → r = r'
  | [], [], _, _, _ => rfl
  | [], y :: r', _, _, h => by simp [joinTail] at h
  | x :: r, [], _, _, h => by simp [joinTail] at h
  | x :: r, y :: r', hr, hr', h => by
    have h' : x ++ joinTail [44] r = y ++ joinTail [44] r' := by simpa [joinTail] using h
    obtain ⟨e1, e2⟩ := cut_comma x y _ _ (hr x (by simp)).comma (hr' y (by simp)).comma (tail_head r) (tail_head r') h'
    rw [e1, tail_inj r r' (fun a ha => hr a (by simp [ha])) (fun a ha => hr' a (by simp [ha])) e2]

theorem join_inj (l l' : List Str) (h : ∀ x ∈ l, OkName x) (h' : ∀ x ∈ l', OkName x) (e : Lib.join l [44] = Lib.join l' [44]) : l = l' := by
  cases l with
  | nil =>
    cases l' with
    | nil => rfl
    | cons y r' =>
      rw [join_cons, Lib.join_nil] at e
      have := (h' y (by simp)).ne
      exact absurd (List.append_eq_nil_iff.1 e.symm).1 this
  | cons x r =>
    cases l' with
    | nil =>
      rw [join_cons, Lib.join_nil] at e
      exact absurd (List.append_eq_nil_iff.1 e).1 (h x (by simp)).ne
    | cons y r' =>
      rw [join_cons, join_cons] at e
      obtain ⟨e1, e2⟩ := cut_comma x y _ _ (h x (by simp)).comma (h' y (by simp)).comma (tail_head r) (tail_head r') e
      rw [e1, tail_inj r r' (fun a ha => h a (by simp [ha])) (fun a ha => h' a (by simp [ha])) e2]

theorem join_star (l : List Str) (h : ∀ x ∈ l, OkName x) : Lib.join l [44] ≠ [42] := by
  intro e
  cases l with
  | nil => rw [Lib.join_nil] at e; cases e
  | cons x r =>
    rw [join_cons] at e
    have hx := h x (by simp)
    cases x with
    | nil => exact hx.ne rfl
    | cons c x' =>
      simp only [List.cons_append, List.cons.injEq, List.append_eq_nil_iff] at e
      exact hx.star (by rw [e.1, e.2.1])

theorem key_inj {e e' : Bool} {l l' : List Str} (h : ∀ x ∈ l, OkName x) (h' : ∀ x ∈ l', OkName x) (hk : key e l = key e' l') : e = e' ∧ (e = false → l = l') := by
  unfold key at hk
  cases e <;> cases e' <;> simp at hk ⊢
  · exact join_inj l l' h h' hk
  · exact absurd hk (join_star l h)
  · exact absurd hk.symm (join_star l' h')

end Go.Proofs.Qxb6605708a.Uni
