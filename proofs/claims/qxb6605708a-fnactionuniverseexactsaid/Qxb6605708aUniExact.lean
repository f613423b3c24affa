/-
  The law FnActionUniverseExact (5).
-/
import Derived.Test.Qxb6605708aUniKeys
import Derived.Test.Qxb6605708aUniFree
import Derived.Deep.DeepCutAuto
import Derived.Deep.RegionWith
namespace Go.Proofs.Qxb6605708a.Uni
open Go.RowKit
set_option linter.unusedVariables false

theorem fields_true {w : World} {base s : Nat} {U : List Str} {l : List Str} (h : SetAt w base s U true l) :
    Calls Try.prog 18 #[.pointer (some ⟨s, 0, none⟩)] w fun r w' => ∃ aa ca, r = .returned (.tuple #[.slice none 0 0, .slice none 0 0, .slice none 0 0, .slice aa 0 ca, .int .i64 0, .bool true]) ∧ Below w.heap.size w w' :=
  (fields_any h).mono fun r w' ⟨aa, ca, he, _, hb⟩ => ⟨aa, ca, he, hb⟩

theorem fields_false {w : World} {base s : Nat} {U : List Str} {l : List Str} (h : SetAt w base s U false l) :
    Calls Try.prog 18 #[.pointer (some ⟨s, 0, none⟩)] w fun r w' => ∃ aa ca, r = .returned (.tuple #[.slice none 0 0, .slice none 0 0, .slice none 0 0, .slice aa l.length ca, .int .i64 (l.length : Nat), .bool false]) ∧ Ints w' aa l.length (fun j => (below U (l.getD j []) : Nat)) ∧ Below w.heap.size w w' :=
  (fields_any h).mono fun r w' ⟨aa, ca, he, hi, hb⟩ => ⟨aa, ca, he, hi, hb⟩

theorem first_below (a : Option Addr) (n c i : Nat) (K : Nat → Str) (w : World) (hs : Vals w a n (fun j => sv (K j))) (hi : i < n) (hn : n ≤ 1048576) :
    Calls Try.prog 19 #[.slice a n c, .int .i64 i] w fun e w' => e = .returned (.int .i64 (fw K i : Nat)) ∧ Below w.heap.size w w' :=
  (first_any a n c i K w hs hi hn).mono fun e w' ⟨he, q, hw⟩ => ⟨he, by rw [hw]; exact draws w q⟩

theorem count_below (a : Option Addr) (n c : Nat) (K : Nat → Str) (w : World) (hs : Vals w a n (fun j => sv (K j))) (hn : n ≤ 1048576) :
    Calls Try.prog 16 #[.slice a n c] w fun e w' => e = .returned (.int .i64 (cf K n : Nat)) ∧ Below w.heap.size w w' :=
  (countFirst_any a n c K w hs hn).mono fun e w' ⟨he, q, hw⟩ => ⟨he, by rw [hw]; exact draws w q⟩

theorem wrap_small {b : Nat} (h : b ≤ 4096) : (IntKind.i64.wrap (b : Int) != (b : Int)) = false := by
  have : IntKind.i64.wrap (b : Int) = (b : Int) := by rw [IntKind.wrap_i64]; omega
  rw [this]
  simp

set_option maxRecDepth 100000 in
set_option maxHeartbeats 8000000 in
theorem exact_any (a0 a1 : Option Addr) (n c0 c1 : Nat) (E : Nat → Bool) (N : Nat → List Str) (w : World) (hE : Bools w a0 n E) (hnil : a0 = none → n = 0 ∧ c0 = 0) (hN : Names w a1 n N) (hn : n ≤ 9223372036854775807) (hl : ∀ i, i < n → (N i).length ≤ 9223372036854775807) :
    Calls Try.prog 5 #[.slice a0 n c0, .slice a1 n c1] w (TrueBelow w) := by
  have hnq := fun w' => run_neq_slice_nil_any (P := Try.prog) w' 29 4 a0 n c0 0 0 Try.underlying29
  go_enter Try.func5, Try.ntmps5
  go_wp2_with fail
  refine (bytes10 a0 a1 n c0 n c1 N w hN hn hn hl).mono ?_
  rintro e w' ⟨r, rfl, hw⟩; subst w'
  cases r with
  | false =>
    go_wp2_with fail
    go_ret
    exact ⟨rfl, Below.refl _ _⟩
  | true =>
    go_wp2_with fail
    refine (small_any a0 a1 n c0 n c1 N w hN hn hn hl).mono ?_
    rintro e w' ⟨r, rfl, hw, hr⟩; subst w'
    cases r with
    | false =>
      clear hr
      go_wp2_with fail
      go_ret
      exact ⟨rfl, Below.refl _ _⟩
    | true =>
      have hS := hr rfl
      clear hr
      have hn4 := hS.hn
      have HS : Hid (Small n n N) := hS
      clear hS
      have hmk0 := run_make_row' (P := Try.prog) 29 4 (.bool false) 1 Try.underlying29 info4 rfl .i64 .i64 n (by omega) (by omega)
      go_upto_if 38 with fail
      go_cut [0] (fun v wc => ∃ ae ce, v = .slice ae n ce ∧ Bools wc ae n E ∧ Below w.heap.size w wc)
      case first =>
        cases a0 with
        | none =>
          have h0 := hnil rfl
          have H0 : Hid (n = 0 ∧ c0 = 0) := h0
          clear h0 hnil
          go_wp2_with fail
          go_meet
          case rel => exact ⟨none, c0, rfl, fun i hi => by have := H0.out.1; omega, Below.refl _ _⟩
        | some ad =>
          go_wp2_with (refine wpList_copy_splice rfl (.tmp 42) (.tmp 43) 29 29 rfl 4 Try.underlying29 size4 (some ⟨w.heap.size, 0, none⟩) (some ad) n n n c0 rfl rfl w.heap.size 0 (madeCells #[.bool false] n).toList 4 ?g1 (boolCells E n) ?g2 ?g3 ?g4 (boolCells_one E n) w.heap.size w ?g5 (Nat.le_refl _) ?_)
          case g1 => rw [heap_alloc_new]
          case g2 => rw [boolCells_len]; exact (Nat.min_self n).symm
          case g3 =>
            intro h0
            rw [boolCells_len] at h0
            obtain ⟨ad', he, h⟩ := bools_src (hE.below ((Below.refl _ _).alloc (Nat.le_refl _) (.cells (madeCells #[.bool false] n) 4))) h0
            cases he
            exact h
          case g4 => rw [boolCells_len, Array.length_toList, size_madeCells]; omega
          case g5 => exact (Below.refl _ _).alloc (Nat.le_refl _) _
          intro w' hg hb
          go_wp2_with fail
          go_meet
          case rel => exact ⟨_, _, rfl, bools_copied (by rw [Array.length_toList, size_madeCells]) hg.out, hb⟩
      case rest =>
        obtain ⟨ae, ce, rfl, hBe, hbe⟩ := hcut
        obtain ⟨V, hV, hIn⟩ := hN.vals
        obtain ⟨K, hK⟩ : ∃ K : Nat → Str, ∀ i, K i = key (E i) (N i) := ⟨_, fun _ => rfl⟩
        have HK : Hid (∀ i, K i = key (E i) (N i)) := hK
        have HI : Hid (∀ i, i < n → InnerOk w (V i) (N i)) := hIn
        clear hK hIn hmk0 hnq
        go_wp2_with fail
        refine (distinct_any a1 n c1 N wc (hN.below hbe) hn4 HS.out.htot).mono ?_
        rintro e wd ⟨vd, rfl, hown, hbd⟩
        obtain ⟨ad, cd, rfl, hstr, _, _⟩ := own_strs hown
        clear hown
        have HP : Hid ((dn N n).Perm (uni (flat N n))) := dn_perm N n
        have hDl : (dn N n).length = (uni (flat N n)).length := (dn_perm N n).length_eq
        obtain ⟨U, hU⟩ : ∃ U, uni (flat N n) = U := ⟨_, rfl⟩
        rw [hU] at hDl HP
        have HU : Hid (uni (flat N n) = U) := hU
        have hul : U.length ≤ 4096 := by rw [← hDl]; exact Nat.le_trans (dn_len N n) HS.out.htot
        clear hU
        have HB : Hid (∀ w' x, Strs w' ad (dn N n) → Calls Try.prog 20 #[.slice ad U.length cd, sv x] w' fun e w'' => e = .returned (.int .i64 (below U x : Nat)) ∧ w'' = w') := fun w' x h => by
          rw [← hDl]
          exact (below_any ad cd (dn N n) x w' h (by omega)).mono fun e w'' ⟨he, hw⟩ => ⟨by rw [he, below_perm HP.out x], hw⟩
        generalize (dn N n).length = dl at *
        subst hDl
        generalize dn N n = Dn at *
        have hBd := hBe.below hbd
        have hbw : Below w.heap.size w wd := hbe.trans (hbd.mono hbe.size)
        have hVd := hV.below hbw
        have hNd := hN.below hbw
        clear hBe hbe hbd hV
        go_wp2_with fail
        refine (keys_any ae a1 n ce c1 E N K HK wd hBd hNd hn4 HS.out.htot HS.out.hbyt).mono ?_
        rintro e w1 ⟨ak, rfl, hk1, hb1⟩
        have hB1 := hBd.below hb1
        have hV1 := hVd.below hb1
        have hs1 := hstr.below hb1
        have hbw1 := hbw.trans (hb1.mono hbw.size)
        clear hBd hVd hNd hstr hbw hb1
        go_wp2_with fail
        refine (zz_any ae a1 n ce c1 E N V w1 hB1 hV1 (fun i hi => (HI.out i hi).below hbw1) hn4 HS.out.htot HS.out.hbyt U HU K HK).mono ?_
        rintro e w2 ⟨bu, rfl, hu2, hb2⟩
        have hB2 := hB1.below hb2
        have hV2 := hV1.below hb2
        have hs2 := hs1.below hb2
        have hk2 := hk1.below hb2
        have hbw2 := hbw1.trans (hb2.mono hbw1.size)
        clear hB1 hV1 hs1 hk1 hbw1 hb2
        go_wp2_with fail
        refine (shape_any hu2).mono ?_
        rintro e w3 ⟨ao, az, rfl, hi3, hz3, hb3⟩
        have hu3 := hu2.below hb3
        have hB3 := hB2.below hb3
        have hV3 := hV2.below hb3
        have hs3 := hs2.below hb3
        have hk3 := hk2.below hb3
        have hbw3 := hbw2.trans (hb3.mono hbw2.size)
        clear hu2 hB2 hV2 hs2 hk2 hbw2 hb3
        obtain ⟨bz, oz, rfl, hz0⟩ := hz3 0 (by omega)
        rw [Nat.add_zero] at hz0
        dsimp only at hz0
        clear hz3
        go_wp2_with fail
        go_loop [13] (fun i => ∃ k : Nat, k ≤ U.length ∧ i = .int .i64 k) (fun i => U.length - (intOf i).toNat)
        case atStart => exact ⟨0, Nat.zero_le _, rfl⟩
        case round =>
          obtain ⟨k, hk, rfl⟩ := hrel
          by_cases hlt : k < U.length
          · obtain ⟨bo, oo, rfl, ho⟩ := hi3 k hlt
            dsimp only at ho
            go_wp2_with fail
            go_round
            case rel => exact ⟨k + 1, by omega, by go_num⟩
            case measure => simp [intOf]; omega
          · obtain rfl : k = U.length := by omega
            clear hi3 hz0
            go_wp2_with fail
            refine (count_below ak n n K w3 hk3 (by omega)).mono ?_
            rintro e w4 ⟨rfl, hb4⟩
            have hu4 := hu3.below hb4
            have hB4 := hB3.below hb4
            have hV4 := hV3.below hb4
            have hs4 := hs3.below hb4
            have hk4 := hk3.below hb4
            have hbw4 := hbw3.trans (hb4.mono hbw3.size)
            clear hu3 hB3 hV3 hs3 hk3 hbw3 hb4
            generalize cf K n = C at *
            go_wp2_with fail
            go_loopw [14] (fun i wr => ∃ j : Nat, j ≤ n ∧ i = .int .i64 j ∧ Below w4.heap.size w4 wr) (fun i _ => n - (intOf i).toNat)
            case atStart => exact ⟨0, Nat.zero_le _, rfl, Below.refl _ _⟩
            case round =>
              obtain ⟨j, hj, rfl, hbr⟩ := hrel
              by_cases hlt : j < n
              · obtain ⟨bk, ok, rfl, hkc⟩ := hk4 j hlt
                dsimp only at hkc
                have kc1 := cell_below hbr hkc
                have hbl := Nat.le_trans (bytL_le N hlt) HS.out.hbyt
                have hkl : List.length (K j) ≤ 1048576 := by rw [HK.out]; exact key_len (E j) (N j) hbl
                have hff := fi_fw (K := K) hlt
                have hfn := (fi_some hff).1
                have hkr := hk4.below hbr
                have hur := hu4.below hbr
                have H17 : Hid (Calls Try.prog 17 #[.pointer (some ⟨bu, 0, none⟩), sv (K j)] wr fun e w' => ∃ s base, e = .returned (.pointer (some ⟨s, 0, none⟩)) ∧ SetAt wr base s U (E (fw K j)) (N (fw K j)) ∧ w' = wr) := set_any hur (K j) hkl (fw K j) hff
                have H19 : Hid (∀ w', Vals w' (some ⟨bk, ok, none⟩) n (fun j => sv (K j)) → Calls Try.prog 19 #[.slice (some ⟨bk, ok, none⟩) n n, .int .i64 j] w' fun e w'' => e = .returned (.int .i64 (fw K j : Nat)) ∧ Below w'.heap.size w' w'') := fun w' h => first_below _ n n j K w' h hlt (by omega)
                obtain ⟨f, hf⟩ : ∃ f, fw K j = f := ⟨_, rfl⟩
                rw [hf] at H17 H19 hfn
                have hll := Nat.le_trans (len_le N hfn) HS.out.htot
                obtain ⟨kx, hkx⟩ : ∃ kx, K j = kx := ⟨_, rfl⟩
                rw [hkx] at H17 kc1
                obtain ⟨be, oe, rfl, he0⟩ := hB4 f hfn
                obtain ⟨b1, o1, rfl, hv0⟩ := hV4 f hfn
                obtain ⟨ai, ci, hvv, hcap, hs0⟩ := HI.out f hfn
                have hs1 := (hs0.below hbw4).below hbr
                rw [hvv] at hv0
                have e1 := cell_below hbr he0
                have v1 := cell_below hbr hv0
                obtain ⟨lf, hlf⟩ : ∃ lf, N f = lf := ⟨_, rfl⟩
                obtain ⟨ef, hef⟩ : ∃ ef, E f = ef := ⟨_, rfl⟩
                rw [hlf] at hs1 v1 H17 hll
                rw [hef] at e1 H17
                have hsr := hs4.below hbr
                clear hff hf hkx hlf hef he0 hv0 hvv hcap hs0 hkc hur hbl hkl
                go_wp2_with fail
                refine H17.out.mono ?_
                clear H17
                rintro e w' ⟨s1, base1, rfl, hset1, hw⟩; subst w'
                go_wp2_with fail
                cases ef with
                | true =>
                  refine (fields_true hset1).mono ?_
                  rintro e w8 ⟨aa, ca, rfl, hb8⟩
                  have e8 := cell_below hb8 e1
                  have hk8 := hkr.below hb8
                  have hbr8 := hbr.trans (hb8.mono hbr.size)
                  clear hset1 e1 v1 hkr kc1
                  go_wp2_with fail
                  refine (H19.out w8 hk8).mono ?_
                  clear H19
                  rintro e w9 ⟨rfl, hb9⟩
                  have e9 := cell_below hb9 e8
                  have hbr9 := hbr8.trans (hb9.mono hbr8.size)
                  clear e8 hk8 hbr8
                  go_wp2_with fail
                  go_roundw
                  case rel => exact ⟨j + 1, by omega, by go_num, hbr9⟩
                  case measure => simp [intOf]; omega
                | false =>
                  refine (fields_false hset1).mono ?_
                  rintro e w8 ⟨aa, ca, rfl, hi8, hb8⟩
                  have e8 := cell_below hb8 e1
                  have v8 := cell_below hb8 v1
                  have hk8 := hkr.below hb8
                  have hs8 := hs1.below hb8
                  have hd8 := hsr.below hb8
                  have hbr8 := hbr.trans (hb8.mono hbr.size)
                  clear hset1 e1 v1 hkr kc1 hs1 hsr
                  go_wp2_with fail
                  refine (H19.out w8 hk8).mono ?_
                  clear H19
                  rintro e w9 ⟨rfl, hb9⟩
                  have e9 := cell_below hb9 e8
                  have v9 := cell_below hb9 v8
                  have hi9 := hi8.below hb9
                  have hs9 := hs8.below hb9
                  have hd9 := hd8.below hb9
                  have hbr9 := hbr8.trans (hb9.mono hbr8.size)
                  clear e8 v8 hi8 hs8 hd8 hk8 hbr8
                  go_wp2_with fail
                  go_loopw [23] (fun i wr => ∃ t : Nat, t ≤ lf.length ∧ i = .int .i64 t ∧ Below w9.heap.size w9 wr) (fun i _ => lf.length - (intOf i).toNat)
                  case atStart => exact ⟨0, Nat.zero_le _, rfl, Below.refl _ _⟩
                  case round =>
                    obtain ⟨t, ht, rfl, hbt⟩ := hrel
                    by_cases hlt2 : t < lf.length
                    · obtain ⟨ba, oa, rfl, hac⟩ := hi9 t hlt2
                      obtain ⟨bs, os, rfl, hsc⟩ := hs9 t hlt2
                      dsimp only at hac
                      have ac := cell_below hbt hac
                      have sc := cell_below hbt hsc
                      have vc := cell_below hbt v9
                      have hdt := hd9.below hbt
                      have hbxl := Nat.le_trans (below_le U (lf.getD t [])) hul
                      have HBx : Hid (∀ w', Strs w' ad Dn → Calls Try.prog 20 #[.slice ad U.length cd, sv (lf.getD t [])] w' fun e w'' => e = .returned (.int .i64 (below U (lf.getD t []) : Nat)) ∧ w'' = w') := fun w' h => HB.out w' _ h
                      generalize lf.getD t [] = x at *
                      generalize below U x = bx at *
                      have hwb : (IntKind.i64.wrap (bx : Int) != (bx : Int)) = false := wrap_small hbxl
                      clear hac hsc
                      go_wp2_with fail
                      go_region_with (go_at_call 20; refine (HBx.out _ hdt.drew).mono ?_; rintro e w' ⟨rfl, hw⟩; subst w')
                      all_goals
                        go_wp2_with fail
                        go_roundw
                        case rel => exact ⟨t + 1, by omega, by go_num, hbt.drew⟩
                        case measure => simp [intOf]; omega
                    · go_wp2_with fail
                      go_roundw
                      case rel => exact ⟨j + 1, by omega, by go_num, hbr9.trans (hbt.mono hbr9.size)⟩
                      case measure => simp [intOf]; omega
              · go_wp2_with fail
                go_ret
                exact ⟨rfl, hbw4.trans (hbr.mono hbw4.size)⟩
end Go.Proofs.Qxb6605708a.Uni
