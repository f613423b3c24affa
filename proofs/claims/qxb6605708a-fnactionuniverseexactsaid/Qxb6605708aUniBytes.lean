/-
  'zzBytes_FnActionUniverseExact' (10) and 'zzBytes_FnActionUniverseOrderFree' (21): each answers some bool and turns nothing.
-/
import Derived.Test.Qxb6605708aUniViews
namespace Go.Proofs.Qxb6605708a.Uni
open Go.RowKit
set_option linter.unusedVariables false

set_option maxHeartbeats 1000000 in
theorem bytes10 (a0 a1 : Option Addr) (m c0 n c1 : Nat) (N : Nat → List Str) (w : World) (hN : Names w a1 n N) (hm : m ≤ 9223372036854775807) (hn : n ≤ 9223372036854775807) (hl : ∀ i, i < n → (N i).length ≤ 9223372036854775807) :
    Calls Try.prog 10 #[.slice a0 m c0, .slice a1 n c1] w (BoolPost w) := by
  go_enter Try.func10, Try.ntmps10
  go_wp2
  all_goals first | (go_ret; exact ⟨_, rfl, rfl⟩) | skip
  go_loop [5, 6] (fun t i => ∃ (k : Nat) (v : Int), k ≤ n ∧ i = .int .i64 k ∧ t = .int .i64 v) (fun _ i => n - (intOf i).toNat)
  case atStart => exact ⟨0, _, Nat.zero_le _, rfl, rfl⟩
  case round =>
    obtain ⟨k, v, hk, rfl, rfl⟩ := hrel
    by_cases hlt : k < n
    · obtain ⟨b, off, ai, ci, rfl, hc, hcap, hs⟩ := hN k hlt
      have hlk := hl k hlt
      generalize N k = l at *
      go_wp2
      all_goals first | (go_ret; exact ⟨_, rfl, rfl⟩) | skip
      go_loop [5, 7] (fun t i => ∃ (j : Nat) (v : Int), j ≤ l.length ∧ i = .int .i64 j ∧ t = .int .i64 v) (fun _ i => l.length - (intOf i).toNat)
      case atStart => exact ⟨0, _, Nat.zero_le _, rfl, rfl⟩
      case round =>
        obtain ⟨j, v', hj, rfl, rfl⟩ := hrel
        by_cases hlj : j < l.length
        · obtain ⟨b', off', rfl, hc'⟩ := hs j hlj
          go_wp2
          all_goals first | (go_ret; exact ⟨_, rfl, rfl⟩) | skip
          go_round
          case rel => exact ⟨j + 1, _, by omega, by go_num, rfl⟩
          case measure => simp [intOf]; omega
        · go_wp2
          go_round
          case rel => exact ⟨k + 1, _, by omega, by go_num, rfl⟩
          case measure => simp [intOf]; omega
    · go_wp2
      go_ret
      exact ⟨_, rfl, rfl⟩

set_option maxHeartbeats 1000000 in
theorem bytes21 (a0 a1 : Option Addr) (m c0 n c1 : Nat) (N : Nat → List Str) (w : World) (hN : Names w a1 n N) (hm : m ≤ 9223372036854775807) (hn : n ≤ 9223372036854775807) (hl : ∀ i, i < n → (N i).length ≤ 9223372036854775807) :
    Calls Try.prog 21 #[.slice a0 m c0, .slice a1 n c1] w (BoolPost w) := by
  go_enter Try.func21, Try.ntmps21
  go_wp2
  all_goals first | (go_ret; exact ⟨_, rfl, rfl⟩) | skip
  go_loop [5, 6] (fun t i => ∃ (k : Nat) (v : Int), k ≤ n ∧ i = .int .i64 k ∧ t = .int .i64 v) (fun _ i => n - (intOf i).toNat)
  case atStart => exact ⟨0, _, Nat.zero_le _, rfl, rfl⟩
  case round =>
    obtain ⟨k, v, hk, rfl, rfl⟩ := hrel
    by_cases hlt : k < n
    · obtain ⟨b, off, ai, ci, rfl, hc, hcap, hs⟩ := hN k hlt
      have hlk := hl k hlt
      generalize N k = l at *
      go_wp2
      all_goals first | (go_ret; exact ⟨_, rfl, rfl⟩) | skip
      go_loop [5, 7] (fun t i => ∃ (j : Nat) (v : Int), j ≤ l.length ∧ i = .int .i64 j ∧ t = .int .i64 v) (fun _ i => l.length - (intOf i).toNat)
      case atStart => exact ⟨0, _, Nat.zero_le _, rfl, rfl⟩
      case round =>
        obtain ⟨j, v', hj, rfl, rfl⟩ := hrel
        by_cases hlj : j < l.length
        · obtain ⟨b', off', rfl, hc'⟩ := hs j hlj
          go_wp2
          all_goals first | (go_ret; exact ⟨_, rfl, rfl⟩) | skip
          go_round
          case rel => exact ⟨j + 1, _, by omega, by go_num, rfl⟩
          case measure => simp [intOf]; omega
        · go_wp2
          go_round
          case rel => exact ⟨k + 1, _, by omega, by go_num, rfl⟩
          case measure => simp [intOf]; omega
    · go_wp2
      go_ret
      exact ⟨_, rfl, rfl⟩

/-! ### actionListsSmall (11) -/

/-- how many names the first k lists hold -/
def tot (N : Nat → List Str) : Nat → Nat
  | 0 => 0
  | k + 1 => tot N k + (N k).length
/-- how many bytes a list counts -/
def bytL : List Str → Nat
  | [] => 0
  | x :: r => 16 + x.length + bytL r
def byt (N : Nat → List Str) : Nat → Nat
  | 0 => 0
  | k + 1 => byt N k + bytL (N k)

theorem bytL_append (l r : List Str) : bytL (l ++ r) = bytL l + bytL r := by
  induction l with
  | nil => simp [bytL]
  | cons x l ih => simp only [List.cons_append, bytL, ih]; omega

theorem bytL_take (l : List Str) (j : Nat) (h : j < l.length) : bytL (l.take (j + 1)) = bytL (l.take j) + (16 + (l[j]).length) := by
  rw [List.take_succ_eq_append_getElem h, bytL_append]
  simp [bytL]

structure Small (m n : Nat) (N : Nat → List Str) : Prop where
  hm : m ≤ 4096
  hn : n ≤ 4096
  htot : tot N n ≤ 4096
  hbyt : byt N n ≤ 1048576

def SmallPost (m n : Nat) (N : Nat → List Str) (w : World) (e : Ending) (w' : World) : Prop := ∃ r : Bool, e = .returned (.bool r) ∧ w' = w ∧ (r = true → Small m n N)
theorem SmallPost.no {m n : Nat} {N : Nat → List Str} (w : World) : SmallPost m n N w (.returned (.bool false)) w := ⟨false, rfl, rfl, by simp⟩

set_option maxHeartbeats 1000000 in
theorem small_any (a0 a1 : Option Addr) (m c0 n c1 : Nat) (N : Nat → List Str) (w : World) (hN : Names w a1 n N) (hm : m ≤ 9223372036854775807) (hn : n ≤ 9223372036854775807) (hl : ∀ i, i < n → (N i).length ≤ 9223372036854775807) :
    Calls Try.prog 11 #[.slice a0 m c0, .slice a1 n c1] w (SmallPost m n N w) := by
  go_enter Try.func11, Try.ntmps11
  go_wp2
  all_goals first | (go_ret; exact SmallPost.no w) | skip
  have hm4 : m ≤ 4096 := by omega
  have hn4 : n ≤ 4096 := by omega
  go_loop [5, 6, 7] (fun t c i => ∃ k : Nat, k ≤ n ∧ i = .int .i64 k ∧ c = .int .i64 (tot N k : Nat) ∧ tot N k ≤ 4096 ∧ t = .int .i64 (m + 24 * n + byt N k : Nat) ∧ m + 24 * n + byt N k ≤ 1048576) (fun _ _ i => n - (intOf i).toNat)
  case atStart => exact ⟨0, Nat.zero_le _, rfl, rfl, Nat.zero_le _, by simp [byt], by simp [byt]; omega⟩
  case round =>
    obtain ⟨k, hk, rfl, rfl, hto, rfl, hby⟩ := hrel
    by_cases hlt : k < n
    · obtain ⟨b, off, ai, ci, rfl, hc, hcap, hs⟩ := hN k hlt
      have HT : Hid (tot N (k + 1) = tot N k + (N k).length) := rfl
      have HB : Hid (byt N (k + 1) = byt N k + bytL (N k)) := rfl
      generalize N k = l at *
      generalize tot N k = T at *
      generalize byt N k = B at *
      by_cases hll : l.length ≤ 4096 ∧ T + l.length ≤ 4096
      · go_wp2
        go_loop [5, 8] (fun t i => ∃ j : Nat, j ≤ l.length ∧ i = .int .i64 j ∧ t = .int .i64 (m + 24 * n + (B + bytL (l.take j)) : Nat) ∧ m + 24 * n + (B + bytL (l.take j)) ≤ 1048576) (fun _ i => l.length - (intOf i).toNat)
        case atStart => exact ⟨0, Nat.zero_le _, rfl, by simp [bytL], by simp [bytL]; omega⟩
        case round =>
          obtain ⟨j, hj, rfl, rfl, hbj⟩ := hrel
          by_cases hlj : j < l.length
          · obtain ⟨b', off', rfl, hc'⟩ := hs j hlj
            have HL : Hid (bytL (l.take (j + 1)) = bytL (l.take j) + (16 + (l[j]).length)) := bytL_take l j hlj
            generalize bytL (l.take j) = Q at *
            by_cases hq : (l[j]).length ≤ 1048576 ∧ m + 24 * n + (B + Q) + (16 + (l[j]).length) ≤ 1048576
            · go_wp2
              go_round
              case rel => exact ⟨j + 1, by omega, by go_num, int_eq (by rw [HL.out]; omega), by rw [HL.out]; omega⟩
              case measure => simp [intOf]; omega
            · go_wp2
              all_goals first | (go_ret; exact SmallPost.no w) | skip
          · obtain rfl : j = l.length := by omega
            go_wp2
            go_round
            case rel => exact ⟨k + 1, by omega, by go_num, by rw [HT.out]; go_num, by rw [HT.out]; omega, by rw [HB.out]; simp, by rw [HB.out]; simpa using hbj⟩
            case measure => simp [intOf]; omega
      · go_wp2
        all_goals first | (go_ret; exact SmallPost.no w) | skip
    · obtain rfl : k = n := by omega
      go_wp2
      go_ret
      exact ⟨_, rfl, rfl, fun _ => ⟨hm4, hn4, hto, by omega⟩⟩
end Go.Proofs.Qxb6605708a.Uni
