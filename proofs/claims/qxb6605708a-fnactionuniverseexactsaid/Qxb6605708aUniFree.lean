/-
  The law FnActionUniverseOrderFree (6).
-/
import Derived.Test.Qxb6605708aUniRev
import Derived.Test.Qxb6605708aUniWell
import Derived.Deep.DeepCutAuto
import Derived.Deep.RegionWith
namespace Go.Proofs.Qxb6605708a.Uni
open Go.RowKit
set_option linter.unusedVariables false

/-- the law's answer -/
def TrueBelow (w : World) (e : Ending) (w' : World) : Prop := e = .returned (.bool true) ∧ Below w.heap.size w w'

set_option maxRecDepth 100000 in
set_option maxHeartbeats 8000000 in
theorem free_any (a0 a1 : Option Addr) (n c0 c1 : Nat) (E : Nat → Bool) (N : Nat → List Str) (w : World) (hE : Bools w a0 n E) (hnil : a0 = none → n = 0 ∧ c0 = 0) (hN : Names w a1 n N) (hn : n ≤ 9223372036854775807) (hl : ∀ i, i < n → (N i).length ≤ 9223372036854775807) :
    Calls Try.prog 6 #[.slice a0 n c0, .slice a1 n c1] w (TrueBelow w) := by
  have hnq := fun w' => run_neq_slice_nil_any (P := Try.prog) w' 29 4 a0 n c0 0 0 Try.underlying29
  go_enter Try.func6, Try.ntmps6
  go_wp2_with fail
  refine (bytes21 a0 a1 n c0 n c1 N w hN hn hn hl).mono ?_
  rintro e w' ⟨r, rfl, hw⟩; subst w'
  cases r with
  | false =>
    go_wp2_with fail
    go_ret
    exact ⟨rfl, Below.refl _ _⟩
  | true =>
    go_wp2_with fail
    refine (small_any a0 a1 n c0 n c1 N w hN hn hn hl).mono ?_
    rintro e w' ⟨r, rfl, hw, hr⟩; subst w'
    cases r with
    | false =>
      clear hr
      go_wp2_with fail
      go_ret
      exact ⟨rfl, Below.refl _ _⟩
    | true =>
      have hS := hr rfl
      clear hr
      have hn4 := hS.hn
      have HS : Hid (Small n n N) := hS
      clear hS
      go_wp2_with fail
      refine (well_any a1 n c1 N w hN (by omega) (fun i hi => Nat.le_trans (len_le N hi) (Nat.le_trans HS.out.htot (by omega))) (fun i hi x hx => Nat.le_trans (str_le hx) (Nat.le_trans (bytL_le N hi) HS.out.hbyt))).mono ?_
      rintro e w' ⟨r, rfl, hw, hr⟩; subst w'
      cases r with
      | false =>
        clear hr
        go_wp2_with fail
        go_ret
        exact ⟨rfl, Below.refl _ _⟩
      | true =>
        have HW : Hid (∀ i, i < n → ∀ x ∈ N i, OkName x) := hr rfl
        clear hr
        have hmk0 := run_make_row' (P := Try.prog) 29 4 (.bool false) 1 Try.underlying29 info4 rfl .i64 .i64 n (by omega) (by omega)
        go_upto_if 54 with fail
        go_cut [0] (fun v wc => ∃ ae ce, v = .slice ae n ce ∧ Bools wc ae n E ∧ Below w.heap.size w wc)
        case first =>
          cases a0 with
          | none =>
            have h0 := hnil rfl
            have H0 : Hid (n = 0 ∧ c0 = 0) := h0
            clear h0 hnil
            go_wp2_with fail
            go_meet
            case rel => exact ⟨none, c0, rfl, fun i hi => by have := H0.out.1; omega, Below.refl _ _⟩
          | some ad =>
            go_wp2_with (refine wpList_copy_splice rfl (.tmp 58) (.tmp 59) 29 29 rfl 4 Try.underlying29 size4 (some ⟨w.heap.size, 0, none⟩) (some ad) n n n c0 rfl rfl w.heap.size 0 (madeCells #[.bool false] n).toList 4 ?g1 (boolCells E n) ?g2 ?g3 ?g4 (boolCells_one E n) w.heap.size w ?g5 (Nat.le_refl _) ?_)
            case g1 => rw [heap_alloc_new]
            case g2 => rw [boolCells_len]; exact (Nat.min_self n).symm
            case g3 =>
              intro h0
              rw [boolCells_len] at h0
              obtain ⟨ad', he, h⟩ := bools_src (hE.below ((Below.refl _ _).alloc (Nat.le_refl _) (.cells (madeCells #[.bool false] n) 4))) h0
              cases he
              exact h
            case g4 => rw [boolCells_len, Array.length_toList, size_madeCells]; omega
            case g5 => exact (Below.refl _ _).alloc (Nat.le_refl _) _
            intro w' hg hb
            go_wp2_with fail
            go_meet
            case rel => exact ⟨_, _, rfl, bools_copied (by rw [Array.length_toList, size_madeCells]) hg.out, hb⟩
        case rest =>
          obtain ⟨ae, ce, rfl, hBe, hbe⟩ := hcut
          obtain ⟨V, hV, hIn⟩ := hN.vals
          obtain ⟨K, hK⟩ : ∃ K : Nat → Str, ∀ i, K i = key (E i) (N i) := ⟨_, fun _ => rfl⟩
          have HK : Hid (∀ i, K i = key (E i) (N i)) := hK
          have HI : Hid (∀ i, i < n → InnerOk w (V i) (N i)) := hIn
          clear hK hIn
          go_wp2_with fail
          refine (distinct_any a1 n c1 N wc (hN.below hbe) hn4 HS.out.htot).mono ?_
          rintro e wd ⟨vd, rfl, hown, hbd⟩
          obtain ⟨ad, cd, rfl, hstr, _, _⟩ := own_strs hown
          clear hown hstr
          have hDl : (dn N n).length = (uni (flat N n)).length := (dn_perm N n).length_eq
          obtain ⟨U, hU⟩ : ∃ U, uni (flat N n) = U := ⟨_, rfl⟩
          rw [hU] at hDl
          have HU : Hid (uni (flat N n) = U) := hU
          have hul : U.length ≤ 4096 := by rw [← hDl]; exact Nat.le_trans (dn_len N n) HS.out.htot
          clear hU
          generalize (dn N n).length = dl at *
          subst hDl
          have hBd := hBe.below hbd
          have hbw : Below w.heap.size w wd := hbe.trans (hbd.mono hbe.size)
          have hVd := hV.below hbw
          clear hBe hbe hbd hV
          have hmk1 := run_make_row' (P := Try.prog) 30 32 (.slice none 0 0) 24 Try.underlying30 info32 rfl .i64 .i64 n (by omega) (by omega)
          go_wp2_with fail
          clear hmk0 hmk1 hnq
          go_loopw [10] (fun i wr => ∃ k : Nat, k ≤ n ∧ i = .int .i64 k ∧ RInv wd n E V k wr) (fun i _ => n - (intOf i).toNat)
          case atStart => exact ⟨0, Nat.zero_le _, rfl, rinv_start wd n E V⟩
          case round =>
            obtain ⟨k, hk, rfl, hR⟩ := hrel
            by_cases hlt : k < n
            · have hj : n - 1 - k < n := by omega
              obtain ⟨be, oe, rfl, he0⟩ := hBd (n - 1 - k) hj
              obtain ⟨b1, o1, rfl, hv0⟩ := hVd (n - 1 - k) hj
              obtain ⟨ai, ci, hvv, _, _⟩ := HI.out (n - 1 - k) hj
              rw [hvv] at hv0
              have hb0 := World.block_lt_of_cell? wd _ he0
              have hb1 := World.block_lt_of_cell? wd _ hv0
              dsimp only at hb0 hb1
              have e1 := cell_below hR.bel he0
              have v1 := cell_below hR.bel hv0
              have r0 := hR.r0.cell hlt
              have r1 := hR.r1.cell hlt
              rw [if_neg (Nat.lt_irrefl _)] at r0 r1
              have f0 := hR.r0.frozen k
              have f1 := hR.r1.frozen k
              obtain ⟨ev, hev⟩ : ∃ ev, E (n - 1 - k) = ev := ⟨_, rfl⟩
              rw [hev] at e1
              have HE : Hid (E (n - 1 - k) = ev) := hev
              obtain ⟨m, hm⟩ : ∃ m, (N (n - 1 - k)).length = m := ⟨_, rfl⟩
              rw [hm] at v1 hvv
              have HV : Hid (V (n - 1 - k) = .slice ai m ci) := hvv
              clear hev hm hvv he0 hv0
              go_wp2_with fail
              go_roundw
              case rel => exact ⟨k + 1, by omega, by go_num, hR.step HE.out HV.out⟩
              case measure => simp [intOf]; omega
            · obtain rfl : k = n := by omega
              go_wp2_with fail
              have hBr := hBd.below hR.bel
              have hVr := hVd.below hR.bel
              have hbr := hbw.trans (hR.bel.mono hbw.size)
              refine (zz_any ae a1 k ce c1 E N V wr hBr hVr (fun i hi => (HI.out i hi).below hbr) hn4 HS.out.htot HS.out.hbyt U HU K HK).mono ?_
              rintro e w1 ⟨bu, rfl, hu, hb1⟩
              obtain ⟨K', hK'⟩ : ∃ K' : Nat → Str, ∀ i, K' i = key (E (k - 1 - i)) (N (k - 1 - i)) := ⟨_, fun _ => rfl⟩
              have HK' : Hid (∀ i, K' i = key (E (k - 1 - i)) (N (k - 1 - i))) := hK'
              have HKK : Hid (∀ i, i < k → K' i = K (k - 1 - i)) := fun i hi => by rw [HK'.out, HK.out]
              clear hK'
              have hb2' := hbr.trans (hb1.mono hbr.size)
              have HZ : Hid (Calls Try.prog 14 #[.slice (some ⟨wd.heap.size, 0, none⟩) k k, .slice (some ⟨wd.heap.size + 1, 0, none⟩) k k] w1 fun e w' => ∃ bu, e = .returned (.pointer (some ⟨bu, 0, none⟩)) ∧ IsUniv w' bu U (fun i => E (k - 1 - i)) (fun i => N (k - 1 - i)) K' k ∧ Below w1.heap.size w1 w') :=
                zz_any (some ⟨wd.heap.size, 0, none⟩) (some ⟨wd.heap.size + 1, 0, none⟩) k k k (fun i => E (k - 1 - i)) (fun i => N (k - 1 - i)) (fun i => V (k - 1 - i)) w1 (hR.bools.below hb1) (hR.vals.below hb1) (fun i hi => (HI.out (k - 1 - i) (by omega)).below hb2') hn4
                  (by rw [tot_rev (N := N) (fun i hi => rfl)]; exact HS.out.htot) (by rw [byt_rev (N := N) (fun i hi => rfl)]; exact HS.out.hbyt) U ((uni_rev (N := N) (fun i hi => rfl)).trans HU.out) K' HK'
              have hB1 := hBr.below hb1
              have hV1 := hVr.below hb1
              clear hBr hVr hBd hVd hR hb1 hbr
              go_wp2_with fail
              refine HZ.out.mono ?_
              clear HZ
              rintro e w2 ⟨bv, rfl, hv, hb2⟩
              have hu2 := hu.below hb2
              have hB2 := hB1.below hb2
              have hV2 := hV1.below hb2
              have hbw2 := hb2'.trans (hb2.mono hb2'.size)
              clear hu hB1 hV1 hb2 hb2' hbw
              go_wp2_with fail
              refine (shape_any hu2).mono ?_
              rintro e w3 ⟨ao1, az1, rfl, i1, z1, hb3⟩
              have hu3 := hu2.below hb3
              have hv3 := hv.below hb3
              have hB3 := hB2.below hb3
              have hV3 := hV2.below hb3
              have hbw3 := hbw2.trans (hb3.mono hbw2.size)
              clear hu2 hv hB2 hV2 hbw2 hb3
              have HV15 : Hid (Calls Try.prog 15 #[.pointer (some ⟨bv, 0, none⟩)] w3 (ShapePost U (cf K k) w3)) := by
                rw [← cf_rev K K' k HKK.out]
                exact shape_any hv3
              go_wp2_with fail
              refine HV15.out.mono ?_
              clear HV15
              rintro e w4 ⟨ao2, az2, rfl, i2, z2, hb4⟩
              have hu4 := hu3.below hb4
              have hv4 := hv3.below hb4
              have hB4 := hB3.below hb4
              have hV4 := hV3.below hb4
              have i1' := i1.below hb4
              have z1' := z1.below hb4
              have hbw4 := hbw3.trans (hb4.mono hbw3.size)
              clear hu3 hv3 hB3 hV3 i1 z1 hbw3 hb4
              generalize cf K k = C at *
              go_wp2_with fail
              refine (equal_below ao1 ao2 U.length U.length U.length (fun _ => 0) w4 i1' i2 (by omega)).mono ?_
              rintro e w5 ⟨rfl, hb5⟩
              have z1'' := z1'.below hb5
              have z2' := z2.below hb5
              have hu5 := hu4.below hb5
              have hv5 := hv4.below hb5
              have hB5 := hB4.below hb5
              have hV5 := hV4.below hb5
              have hbw5 := hbw4.trans (hb5.mono hbw4.size)
              clear z1' z2 i1' i2 hu4 hv4 hB4 hV4 hbw4 hb5
              go_wp2_with fail
              refine (equal_below az1 az2 1 1 1 (fun _ => (U.length : Int) + 1) w5 z1'' z2' (by omega)).mono ?_
              rintro e w6 ⟨rfl, hb6⟩
              have hu6 := hu5.below hb6
              have hv6 := hv5.below hb6
              have hB6 := hB5.below hb6
              have hV6 := hV5.below hb6
              have hbw6 := hbw5.trans (hb6.mono hbw5.size)
              clear z1'' z2' hu5 hv5 hB5 hV5 hbw5 hb6
              go_wp2_with fail
              go_loopw [21] (fun i wr => ∃ j : Nat, j ≤ k ∧ i = .int .i64 j ∧ Below w6.heap.size w6 wr) (fun i _ => k - (intOf i).toNat)
              case atStart => exact ⟨0, Nat.zero_le _, rfl, Below.refl _ _⟩
              case round =>
                obtain ⟨j, hj, rfl, hbr⟩ := hrel
                by_cases hlt : j < k
                · obtain ⟨be, oe, rfl, he0⟩ := hB6 j hlt
                  obtain ⟨b1, o1, rfl, hv0⟩ := hV6 j hlt
                  obtain ⟨ai, ci, hvv, hcap, hs0⟩ := HI.out j hlt
                  have hs1 := (hs0.below hbw6).below hbr
                  rw [hvv] at hv0
                  have e1 := cell_below hbr he0
                  have v1 := cell_below hbr hv0
                  have hbl := Nat.le_trans (bytL_le N hlt) HS.out.hbyt
                  have hll := Nat.le_trans (len_le N hlt) HS.out.htot
                  have HL : Hid (∀ w', Strs w' ai (N j) → Calls Try.prog 24 #[.bool (E j), .slice ai (N j).length ci] w' fun r w'' => r = .returned (sv (K j)) ∧ Below w'.heap.size w' w'') := fun w' h => by
                    rw [HK.out]
                    exact listKey_any (E j) ai ci (N j) w' h hbl (by omega)
                  obtain ⟨l, hl⟩ : ∃ l, N j = l := ⟨_, rfl⟩
                  obtain ⟨ev, hev⟩ : ∃ ev, E j = ev := ⟨_, rfl⟩
                  obtain ⟨kx, hkx⟩ : ∃ kx, K j = kx := ⟨_, rfl⟩
                  rw [hl] at hs1 v1 HL
                  rw [hev] at e1 HL
                  rw [hkx] at HL
                  have HX : Hid (K j = kx) := hkx
                  have hkl : List.length kx ≤ 1048576 := by rw [← hkx, HK.out]; exact key_len (E j) (N j) hbl
                  clear he0 hv0 hs0 hvv hl hev hkx
                  go_upto_region 33 with fail
                  go_cut [22] (fun v wx => v = sv kx ∧ Below wr.heap.size wr wx)
                  case first =>
                    go_region_with (go_at_call 24; refine (HL.out _ hs1.drew).mono ?_; rintro e w7 ⟨rfl, hb7⟩)
                    all_goals
                      have hb8 : Below wr.heap.size wr w7 := ((Below.refl wr.heap.size wr).drew).trans hb7
                      go_wp2_with fail
                      go_meet
                      case rel => exact ⟨rfl, hb8⟩
                  case rest =>
                    obtain ⟨rfl, hb7⟩ := hcut
                    have hbc : Below w6.heap.size w6 wc := hbr.trans (hb7.mono hbr.size)
                    have huc := hu6.below hbc
                    have hvc := hv6.below hbc
                    have hf : fi k K kx = some (fw K j) := by rw [← HX.out]; exact fi_fw hlt
                    obtain ⟨f', hf'⟩ : ∃ f', fi k K' kx = some f' := by
                      cases h : fi k K' kx with
                      | some f' => exact ⟨f', rfl⟩
                      | none => exact absurd (by rw [HKK.out _ (by omega), show k - 1 - (k - 1 - j) = j by omega]; exact HX.out) (fi_none.1 h (k - 1 - j) (by omega))
                    have hfk := (fi_some hf).1
                    have hf1 := (fi_some hf').1
                    have hkk : K (k - 1 - f') = kx := by rw [← HKK.out f' hf1]; exact (fi_some hf').2.1
                    have hin := key_inj (e := E (k - 1 - f')) (e' := E (fw K j)) (l := N (k - 1 - f')) (l' := N (fw K j)) (HW.out _ (by omega)) (HW.out _ hfk) (by rw [← HK.out, ← HK.out, hkk, (fi_some hf).2.1])
                    have hsl : setLen (E (fw K j)) (N (fw K j)) ≤ 4096 := Nat.le_trans (setLen_le _ _) (Nat.le_trans (len_le N hfk) HS.out.htot)
                    have H17u : Hid (Calls Try.prog 17 #[.pointer (some ⟨bu, 0, none⟩), sv kx] wc fun e w' => ∃ s base, e = .returned (.pointer (some ⟨s, 0, none⟩)) ∧ SetAt wc base s U (E (fw K j)) (N (fw K j)) ∧ w' = wc) := set_any huc kx hkl (fw K j) hf
                    have H17v : Hid (Calls Try.prog 17 #[.pointer (some ⟨bv, 0, none⟩), sv kx] wc fun e w' => ∃ s base, e = .returned (.pointer (some ⟨s, 0, none⟩)) ∧ SetAt wc base s U (E (fw K j)) (N (fw K j)) ∧ w' = wc) := (set_any hvc kx hkl f' hf').mono fun e w' ⟨s, base, he, hs, hw⟩ => ⟨s, base, he, hs.congr hin.1 hin.2, hw⟩
                    clear hf hf' hfk hf1 hkk hin huc hvc hb7
                    generalize E (fw K j) = ef at *
                    generalize N (fw K j) = lf at *
                    go_wp2_with fail
                    refine H17u.out.mono ?_
                    clear H17u
                    rintro e w' ⟨s1, base1, rfl, hset1, hw⟩; subst w'
                    go_wp2_with fail
                    refine H17v.out.mono ?_
                    clear H17v
                    rintro e w' ⟨s2, base2, rfl, hset2, hw⟩; subst w'
                    go_wp2_with fail
                    refine (fields_any hset1).mono ?_
                    rintro e w8 ⟨aa1, ca1, rfl, in1, hb8⟩
                    have hset2' := hset2.below hb8
                    have hbc8 := hbc.trans (hb8.mono hbc.size)
                    clear hset1 hset2 hbc hb8
                    go_wp2_with fail
                    refine (fields_any hset2').mono ?_
                    rintro e w9 ⟨aa2, ca2, rfl, in2, hb9⟩
                    have in1' := in1.below hb9
                    have hbc9 := hbc8.trans (hb9.mono hbc8.size)
                    clear hset2' in1 hbc8 hb9
                    generalize setLen ef lf = sl at *
                    go_wp2_with fail
                    refine (equal_below none none 0 0 0 (fun _ => 0) w9 (ints_none _ _ _) (ints_none _ _ _) (by omega)).mono ?_
                    rintro e w10 ⟨rfl, hb10⟩
                    go_wp2_with fail
                    refine (equal_below none none 0 0 0 (fun _ => 0) w10 (ints_none _ _ _) (ints_none _ _ _) (by omega)).mono ?_
                    rintro e w11 ⟨rfl, hb11⟩
                    go_wp2_with fail
                    refine (equal_below none none 0 0 0 (fun _ => 0) w11 (ints_none _ _ _) (ints_none _ _ _) (by omega)).mono ?_
                    rintro e w12 ⟨rfl, hb12⟩
                    go_wp2_with fail
                    refine (equal_below aa1 aa2 sl ca1 ca2 _ w12 (((in1'.below hb10).below hb11).below hb12) (((in2.below hb10).below hb11).below hb12) (by omega)).mono ?_
                    rintro e w13 ⟨rfl, hb13⟩
                    have hbc10 := hbc9.trans (hb10.mono hbc9.size)
                    have hbc11 := hbc10.trans (hb11.mono hbc10.size)
                    have hbc12 := hbc11.trans (hb12.mono hbc11.size)
                    have hbc13 := hbc12.trans (hb13.mono hbc12.size)
                    clear hbc9 hbc10 hbc11 hbc12 hb10 hb11 hb12 hb13 in1' in2
                    go_wp2_with fail
                    go_roundw
                    case rel => exact ⟨j + 1, by omega, by go_num, hbc13⟩
                    case measure => simp [intOf]; omega
                · go_wp2
                  go_ret
                  exact ⟨rfl, hbw6.trans (hbr.mono hbw6.size)⟩
end Go.Proofs.Qxb6605708a.Uni
