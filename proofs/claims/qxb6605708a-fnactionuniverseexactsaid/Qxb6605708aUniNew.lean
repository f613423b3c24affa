/-
  newActionUniverse (27), walked.
-/
import Derived.Test.Qxb6605708aUniInv
namespace Go.Proofs.Qxb6605708a.Uni
open Go.RowKit
set_option linter.unusedVariables false

theorem info21 : (Try.prog.info? 21).map (fun i => (i.zero, i.size, i.bytes)) = some (some (.int .i32 0), 1, 4) := by kernel_rfl

theorem flat_len (N : Nat → List Str) (k : Nat) : (flat N k).length = tot N k := by
  induction k with
  | zero => rfl
  | succ k ih => rw [flat_succ, List.length_append, ih]; rfl

theorem search_below (a : Option Addr) (c : Nat) (U : List Str) (x : Str) (w : World) (hs : Strs w a U) (hU : U.Pairwise (· < ·)) (hl : U.length ≤ 1048576) :
    Calls Try.prog 31 #[.slice a U.length c, sv x] w fun e w' => ∃ r : Bool, e = .returned (.tuple #[.int .i64 (below U x : Nat), .bool r]) ∧ Below w.heap.size w w' :=
  (search_any a c U x w hs hU hl).mono fun e w' ⟨r, he, q, hw⟩ => ⟨r, he, by rw [hw]; exact draws w q⟩

theorem own_shape {w : World} {base n : Nat} {e : TypeId} {size : Nat} {v : Value} {xs : List Value} (h : w.ownsRow base e size v n xs) : ∃ a c, v = .slice a n c := by
  rcases h.2 with ⟨rfl, h0⟩ | ⟨g, cap, cur, rfl, _⟩
  · exact ⟨none, 0, by rw [h0]⟩
  · exact ⟨_, _, rfl⟩

set_option maxRecDepth 100000 in
set_option maxHeartbeats 4000000 in
theorem new_any (b off n c : Nat) (E : Nat → Bool) (N : Nat → List Str) (U : List Str) (HU : Hid (uni (flat N n) = U)) (K : Nat → Str) (HK : Hid (∀ i, K i = key (E i) (N i))) (w : World) (hL : Lists w b off n E N) (hn : n ≤ 4096) (ht : tot N n ≤ 4096) (hby : byt N n ≤ 1048576) :
    Calls Try.prog 27 #[.slice (some ⟨b, off, none⟩) n c] w fun e w' => ∃ p av, e = .returned (.pointer (some ⟨p + 1 + 1 + 1, 0, none⟩)) ∧ LInv w p U av E N K n w' := by
  obtain ⟨i0, hi, hz0, hz1, hz2⟩ := info_parts info9
  obtain ⟨i1, hi1, hy0, hy1, hy2⟩ := info_parts info21
  go_enter Try.func27, Try.ntmps27
  go_wp2
  go_loopw [3, 17] (fun v i wr => ∃ k : Nat, k ≤ n ∧ i = .int .i64 k ∧ wr.ownsRow w.heap.size 9 1 v (flat N k).length (strCellsL (flat N k)) ∧ Below w.heap.size w wr) (fun _ i _ => n - (intOf i).toNat)
  case atStart => exact ⟨0, Nat.zero_le _, rfl, World.ownsRow_nil _ _ _ _, Below.refl _ _⟩
  case round =>
    obtain ⟨k, hk, rfl, hown, hbel⟩ := hrel
    by_cases hlt : k < n
    · obtain ⟨h1, ai, ci, h2, hcap, hs⟩ := hL k hlt
      have hb : b < w.heap.size := World.block_lt_of_cell? w _ h1
      have c1 := cell_below hbel h1
      have c2 := cell_below hbel h2
      have hlen : (flat N k).length + (N k).length ≤ 4096 := by
        have h2 := tot_mono N (show k + 1 ≤ n by omega)
        have h3 : tot N (k + 1) = tot N k + (N k).length := rfl
        rw [flat_len]
        omega
      have HF : Hid (flat N (k + 1) = flat N k ++ N k) := rfl
      have hsr := hs.below hbel
      clear h1 h2
      generalize N k = l at *
      generalize flat N k = A at *
      generalize E k = ev at *
      go_wp2_with (at_builtin; go_must (refine wpList_append_own_src _ rfl (.tmp 21) (.tmp 23) 32 rfl w.heap.size 9 i0 (.string ⟨#[]⟩) 1 16 Try.underlying32 hi hz0 hz1 hz2 rfl (by decide) u3 A.length (strCellsL A) rfl (hown.alloc _) ai l.length ci (strCellsL l) rfl ?c1 ?c2 ?c3 ?c4 ?c5 ?c6 ?c7 ?_))
      case c1 => rw [strCellsL_length, Nat.mul_one]
      case c2 => exact fun h => by have := hcap.2 h; have := hcap.1; omega
      case c3 => exact strs_news (hsr.below ((Below.refl _ _).alloc (Nat.le_refl _) _))
      case c4 => exact strs_one l
      case c5 => unfold maxLen; omega
      case c6 => omega
      case c7 => have := hbel.size; simp; omega
      intro v1 w1 hown1 hg1
      have hbel1 : Below w.heap.size w w1 := (hbel.alloc hbel.size _).grown hg1 (by have := hbel.size; simp; omega) (fun j hj => (hown.lt j hj).1)
      clear hg1 c1 c2
      go_wp2
      go_roundw
      case rel => exact ⟨k + 1, by omega, by go_num, by rw [HF.out]; simpa [strCellsL] using hown1, hbel1⟩
      case measure => simp [intOf]; omega
    · obtain rfl : k = n := by omega
      have hfl : (flat N k).length ≤ 4096 := by rw [flat_len]; exact ht
      have HP : Hid (U.Pairwise (· < ·)) := by rw [← HU.out]; exact (uni_spec _).1
      have hul : U.length ≤ 4096 := by rw [← HU.out]; exact Nat.le_trans (uni_length_le _) hfl
      have HS := sort_own hown (by omega)
      have HC : Hid (∀ (w2 : World) (v : Value), w2.ownsRow w.heap.size 9 1 v (flat N k).length (strCellsL (srt (flat N k))) → Calls Try.prog 29 #[v] w2 fun e w' => ∃ v', e = .returned v' ∧ w'.ownsRow w.heap.size 9 1 v' (uni (flat N k)).length (strCellsL (uni (flat N k))) ∧ w2.grownBy w' v.ownBlock) := fun w2 v h => compact_own (base := w.heap.size) h (by omega)
      go_wp2_with fail
      refine HS.mono ?_
      clear HS
      rintro e w1 ⟨rfl, hown1, hg1⟩
      have hbel1 := hbel.grown hg1 hbel.size (fun j hj => (hown.lt j hj).1)
      clear hg1 hown hbel
      go_wp2_with fail
      refine (HC.out _ _ hown1).mono ?_
      clear HC
      rintro e w2 ⟨v2, rfl, hown2, hg2⟩
      have hbel2 := hbel1.grown hg2 hbel1.size (fun j hj => (hown1.lt j hj).1)
      clear hg2 hown1 hbel1
      rw [HU.out] at hown2
      obtain ⟨av, cv, rfl, hstr, _, _⟩ := own_strs hown2
      have hmm := @run_makeMap Try.prog
      have hmk := run_make_row' (P := Try.prog) 22 21 (.int .i32 0) 4 Try.underlying22 info21 rfl .i64 .i64 U.length (by omega) (by omega)
      go_wp2
      clear hmm hmk
      go_loopw [46] (fun i wr => ∃ t : Nat, t ≤ k ∧ i = .int .i64 t ∧ LInv w w2.heap.size U av E N K t wr) (fun i _ => k - (intOf i).toNat)
      case atStart => exact ⟨0, Nat.zero_le _, rfl, linv_start w w2 hbel2 U av hstr E N K⟩
      case round =>
        clear hstr hown2 hbel2
        obtain ⟨t, htk, rfl, hI⟩ := hrel
        by_cases hlt : t < k
        · obtain ⟨h1, ai, ci, h2, hcap, hs⟩ := hL t hlt
          have c1 := cell_below hI.below h1
          have c2 := cell_below hI.below h2
          have hsr := hs.below hI.below
          have hbl := Nat.le_trans (bytL_le N hlt) hby
          have hll := Nat.le_trans (len_le N hlt) ht
          have hkl := key_len (E t) (N t) hbl
          obtain ⟨l, hl⟩ : ∃ l, N t = l := ⟨_, rfl⟩
          obtain ⟨ev, hev⟩ : ∃ ev, E t = ev := ⟨_, rfl⟩
          obtain ⟨kx, hkx⟩ : ∃ kx, K t = kx := ⟨_, rfl⟩
          have HE : Hid (E t = ev) := hev
          have HN : Hid (N t = l) := hl
          have HX : Hid (K t = kx) := hkx
          have HQ : Hid (kx = key ev l) := by show kx = key ev l; rw [← hkx, HK.out, hev, hl]
          rw [← HK.out, hkx] at hkl
          rw [hl] at c2 hcap hs hsr hbl hll
          rw [hev] at c1
          clear hl hev hkx h1 h2
          have HA : Hid (∀ w', Strs w' ai l → Calls Try.prog 30 #[.agg #[.bool ev, .slice ai l.length ci]] w' fun r w'' => r = .returned (sv kx) ∧ Below w'.heap.size w' w'') := fun w' h => by
            rw [HQ.out]
            exact akey_any ev ai ci l w' h hcap.1 hbl (by omega)
          have hba : ∀ o, Below wr.heap.size wr (wr.alloc o) := fun o => (Below.refl _ _).alloc (Nat.le_refl _) o
          go_wp2_with fail
          refine (HA.out _ (hsr.below (hba _))).mono ?_
          clear HA
          rintro e w1 ⟨rfl, hb1⟩
          have hl0 : w1.cell? ⟨wr.heap.size, 0, none⟩ = some (.bool ev) := cell_below hb1 (by simp)
          have hl1 : w1.cell? ⟨wr.heap.size, 1, none⟩ = some (.slice ai l.length ci) := cell_below hb1 (by simp)
          have hI1 := hI.belowStep ((hba _).trans (hb1.mono (hba _).size))
          have hzw : wr.heap.size < w1.heap.size := by have := hb1.size; simp at this; omega
          clear hb1 hI c1 c2 hba
          obtain ⟨sb, D, hm, hst⟩ := hI1.sets
          have hlk := hm.look kx (by unfold maxLen; omega)
          have hu3 := hI1.mapCell
          have hp4 : w2.heap.size + 1 + 1 + 1 < w1.heap.size := by have := hI1.size; omega
          cases hf : fi t K kx with
          | some i =>
            have hfd : found K t sb kx = some ⟨sb i, 0, none⟩ := by unfold found; rw [hf]
            rw [hfd] at hlk
            have HF : Hid (fi t K kx = some i) := hf
            clear hf hfd
            go_wp2
            go_roundw
            case rel => exact ⟨t + 1, by omega, by go_num, hI1.skip (i := i) (by rw [HX.out]; exact HF.out)⟩
            case measure => simp [intOf]; omega
          | none =>
            have hfd : found K t sb kx = none := by unfold found; rw [hf]
            rw [hfd] at hlk
            have HF : Hid (fi t K kx = none) := hf
            clear hf hfd
            cases ev with
            | true =>
              go_wp2_with (at_mapUpdate; go_must (refine wpList_mapUpdate_own _ rfl _ _ _ 50 rfl 9 40 keyed9 Try.underlying50 ptrElem (w2.heap.size + 1 + 1) t D rfl (hm.own.alloc _) ?m1 (sv kx) (.pointer (some ⟨w1.heap.size, 0, none⟩)) (.string kx) rfl rfl (key9 kx ?m2) (ptrD w1.heap.size) [] (ptrElem_ptr _) ?_))
              case m1 => unfold maxLen; omega
              case m2 => unfold maxLen; omega
              intro w3 hown3 hg3
              go_wp2
              go_roundw
              case rel => exact ⟨t + 1, by omega, by go_num, hI1.putNew hm hst ((Below.refl _ _).alloc (Nat.le_refl _) _) HX.out HE.out HN.out HF.out (set_every w1 U l _ hI1.size) hown3 hg3⟩
              case measure => simp [intOf]; omega
            | false =>
              go_wp2
              go_loopw [69] (fun i wi => ∃ j va, j ≤ l.length ∧ i = .int .i64 (j : Nat) ∧ SInv w1 U l j va wi) (fun i _ => l.length - (intOf i).toNat)
              case atStart => exact ⟨0, _, Nat.zero_le _, rfl, sinv_start w1 U l⟩
              case round =>
                obtain ⟨j, va, hj, rfl, hS⟩ := hrel
                have hs3 : wr.cell? ⟨w1.heap.size, 3, none⟩ = some va := cell_blk hS.blk
                by_cases hlj : j < l.length
                · obtain ⟨b', off', rfl, hc'⟩ := hs j hlj
                  have hbx := cell_below ((hI1.below).trans (hS.bel.mono hI1.below.size)) hc'
                  rw [getD_mem hlj] at hbx
                  have HT : Hid (l.take (j + 1) = l.take j ++ [l[j]]) := List.take_succ_eq_append_getElem hlj
                  have hql := Nat.le_trans (below_le U l[j]) hul
                  have HB : Hid (∀ w', Strs w' av U → Calls Try.prog 31 #[.slice av U.length cv, sv l[j]] w' fun e w'' => ∃ r : Bool, e = .returned (.tuple #[.int .i64 (below U l[j] : Nat), .bool r]) ∧ Below w'.heap.size w' w'') := fun w' h => search_below av cv U l[j] w' h HP.out (by omega)
                  obtain ⟨x, hx⟩ : ∃ x, l[j] = x := ⟨_, rfl⟩
                  rw [hx] at hbx HT hql HB
                  obtain ⟨q, hq⟩ : ∃ q, below U x = q := ⟨_, rfl⟩
                  rw [hq] at hql HB
                  have HQ2 : Hid (below U x = q) := hq
                  clear hq hx hc'
                  go_wp2_with fail
                  refine (HB.out _ (hI1.strs.strs.below hS.bel)).mono ?_
                  clear HB
                  rintro e w3 ⟨r, rfl, hb3⟩
                  have hs3' : w3.cell? ⟨w1.heap.size, 3, none⟩ = some va := cell_below hb3 hs3
                  have hown3 : w3.ownsRow (w1.heap.size + 1) 21 1 va j (idxCells U (l.take j)) := hS.own.kept (below_grown hb3 (Nat.le_refl _)) (by cases hv : va.ownBlock <;> simp)
                  have hsz3 : w1.heap.size + 1 ≤ w3.heap.size := Nat.le_trans hS.size hb3.size
                  clear hs3 hbx
                  go_wp2_with (at_builtin; go_must (refine wpList_append_own _ rfl (.tmp 83) (.tmp 86) 22 rfl (w1.heap.size + 1) 21 i1 (.int .i32 0) 1 4 Try.underlying22 hi1 hy0 hy1 hy2 rfl (by decide) va j (idxCells U (l.take j)) rfl (hown3.alloc _) ⟨w3.heap.size, 0, none⟩ 1 1 [.int .i32 (q : Nat)] rfl rfl ?d1 ?d2 ?d3 ?d4 ?d5 ?_))
                  case d1 => exact cell_one_new _ _ _
                  case d2 => exact one_cell _ rfl
                  case d3 => unfold maxLen; omega
                  case d4 => omega
                  case d5 => simp; omega
                  intro va' w4 hown4 hg4 hn4
                  obtain ⟨aa', ca', rfl⟩ := own_shape hown4
                  have HS := hS.step hb3 hg4 (by rw [HQ2.out]; exact hown4) HT.out
                  have hc4 : w4.cell? ⟨w1.heap.size, 3, none⟩ = some va := cell_blk HS.1
                  have hf4 : w4.frozen? ⟨w1.heap.size, 3, none⟩ = false := free_blk HS.1
                  have HS2 : Hid (SInv w1 U l (j + 1) (.slice aa' (j + 1) ca') (w4.setCell ⟨w1.heap.size, 3, none⟩ (.slice aa' (j + 1) ca'))) := HS.2
                  clear HS hown4 hg4 hn4 hown3 hs3' hb3
                  go_wp2
                  go_roundw
                  case rel => exact ⟨j + 1, _, by omega, by go_num, HS2.out⟩
                  case measure => simp [intOf]; omega
                · obtain rfl : j = l.length := by omega
                  have hown' := hS.own
                  rw [List.take_of_length_le (Nat.le_refl _)] at hown'
                  obtain ⟨aa, ca, rfl, hints⟩ := own_ints hown'
                  have hs4 : wr.cell? ⟨w1.heap.size, 4, none⟩ = some (.int .i64 0) := cell_blk hS.blk
                  have hf4 : wr.frozen? ⟨w1.heap.size, 4, none⟩ = false := free_blk hS.blk
                  have hu3' := cell_below hS.bel hu3
                  have hmi := hm.below hS.bel
                  have hsw := hS.size
                  clear hown' hu3 hlk
                  go_wp2_with (at_mapUpdate; go_must (refine wpList_mapUpdate_own _ rfl _ _ _ 50 rfl 9 40 keyed9 Try.underlying50 ptrElem (w2.heap.size + 1 + 1) t D rfl (hmi.own.setCell ?m3 _) ?m1 (sv kx) (.pointer (some ⟨w1.heap.size, 0, none⟩)) (.string kx) rfl rfl (key9 kx ?m2) (ptrD w1.heap.size) [] (ptrElem_ptr _) ?_))
                  case m1 => unfold maxLen; omega
                  case m2 => unfold maxLen; omega
                  case m3 => show w2.heap.size + 1 + 1 ≠ w1.heap.size; omega
                  intro w3 hown3 hg3
                  go_wp2
                  go_roundw
                  case rel => exact ⟨t + 1, by omega, by go_num, hI1.putNew hm hst (hS.bel.setCell (Nat.le_refl _) _) HX.out HE.out HN.out HF.out (hS.done hints hI1.size) hown3 hg3⟩
                  case measure => simp [intOf]; omega
        · obtain rfl : t = k := by omega
          go_wp2
          go_ret
          exact ⟨_, _, rfl, hI⟩
end Go.Proofs.Qxb6605708a.Uni
