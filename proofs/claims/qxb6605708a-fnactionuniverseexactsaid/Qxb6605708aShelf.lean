/-
  DERIVED: THE SHELF's CONTRACTS AT THIS DUMP, IN PLAIN WORDS (tools/lay-plain.mjs out of 'Qxb6605708aShelfSrc.lean', which tools/lay-shelf.mjs wrote): THE SAME DECLARATIONS UNDER THE SAME NAMES: 'import', 'namespace', 'open', 'def', 'theorem' AND NOTHING ELSE: no command of the shelf's: FOR A HAND-IN. Each laying: the table of numbers ('.._ren') and one theorem, a field a fact of the dump's own or the kernel's comparison; each contract: ONE APPLICATION.
-/
import Derived.Shelf.Strings.OnBuilder
import Derived.Shelf.Sort.Plain
import Derived.Shelf.Slices.CompactS
import Derived.Shelf.Slices.In.SortNone
import Derived.Shelf.Spec.SearchS
import Derived.Test.Qxb6605708aProg
namespace Go.Proofs
open Go.Shelf
def Try.lays156_ren : Go.Shelf.Ren := ⟨fun | 156 => 34 | 165 => 47 | 166 => 48 | 169 => 49 | 240 => 56 | 241 => 57 | 276 => 59 | 277 => 60 | n => n, fun | 31 => 32 | 9 => 9 | 3 => 3 | 4 => 4 | 0 => 0 | 20 => 20 | 72 => 90 | 76 => 94 | 70 => 88 | 37 => 65 | 75 => 93 | 127 => 103 | 164 => 107 | 5 => 5 | 80 => 96 | n => n, fun | n => n⟩
theorem Try.lays156 : Go.Proofs.Lays.n156 Try.prog Try.lays156_ren := {
  mixed := by kernel_rfl
  f156 := Try.func34.trans (congrArg some (by kernel_rfl))
  f165 := Try.func47.trans (congrArg some (by kernel_rfl))
  f166 := Try.func48.trans (congrArg some (by kernel_rfl))
  f169 := Try.func49.trans (congrArg some (by kernel_rfl))
  f240 := Try.func56.trans (congrArg some (by kernel_rfl))
  f241 := Try.func57.trans (congrArg some (by kernel_rfl))
  f276 := Try.func59.trans (congrArg some (by kernel_rfl))
  f277 := Try.func60.trans (congrArg some (by kernel_rfl))
  t0 := Try.underlying0
  a0 := Try.isAgg0
  z0 := Try.sizeOf0
  v0 := Try.zeroValue0
  t3 := Try.underlying3
  a3 := Try.isAgg3
  z3 := Try.sizeOf3
  v3 := Try.zeroValue3
  t4 := Try.underlying4
  a4 := Try.isAgg4
  z4 := Try.sizeOf4
  v4 := Try.zeroValue4
  t9 := Try.underlying9
  a9 := Try.isAgg9
  z9 := Try.sizeOf9
  v9 := Try.zeroValue9
  t20 := Try.underlying20
  a20 := Try.isAgg20
  z20 := Try.sizeOf20
  v20 := Try.zeroValue20
  t31 := Try.underlying32
  a31 := Try.isAgg32
  z31 := Try.sizeOf32
  v31 := Try.zeroValue32
  t37 := Try.underlying65
  a37 := Try.isAgg65
  z37 := Try.sizeOf65
  v37 := Try.zeroValue65
  t70 := Try.underlying88
  a70 := Try.isAgg88
  z70 := Try.sizeOf88
  v70 := Try.zeroValue88
  t72 := Try.underlying90
  a72 := Try.isAgg90
  z72 := Try.sizeOf90
  v72 := Try.zeroValue90
  t75 := Try.underlying93
  a75 := Try.isAgg93
  z75 := Try.sizeOf93
  v75 := Try.zeroValue93
  t76 := Try.underlying94
  a76 := Try.isAgg94
  z76 := Try.sizeOf94
  v76 := Try.zeroValue94
  t127 := Try.underlying103
  a127 := Try.isAgg103
  z127 := Try.sizeOf103
  v127 := Try.zeroValue103
  t164 := Try.underlying107
  a164 := Try.isAgg107
  z164 := Try.sizeOf107
  v164 := Try.zeroValue107 }
theorem Try.Builder_Extra_156 : Builder.Extra Try.prog Try.lays156_ren := {
  sizeBuilder := by kernel_rfl
  liesBuilder := by kernel_rfl
  t5 := Try.underlying5
  a5 := Try.isAgg5
  z5 := Try.sizeOf5
  v5 := Try.zeroValue5
  infoByte := by kernel_rfl
  cellsByte := by kernel_rfl
  sizeByte := by kernel_rfl
  neB5 := by decide }
open Go.RowKit in
/-- No element: the empty string; the world is as it was. (Whatever the slice's address and capacity: a nil slice too.) (LAID: no walk: one application.) -/
theorem Try.strings_Join_none (a : Option Addr) (c : Nat) (sep : ByteArray) (w : World) :
    Calls Try.prog 34 #[.slice a 0 c, .string sep] w fun e w' => e = .returned (.string ⟨#[]⟩) ∧ w' = w := Any.strings_Join_none Try.lays156 Try.Builder_Extra_156 a c sep w
open Go.RowKit in
/-- strings.Join: "Join concatenates the elements of its first argument to create a single string. The separator string sep is placed between elements in the resulting string.": HOWEVER MANY ELEMENTS. Below the heap's end the world is as it was. (LAID: no walk: one application.) -/
theorem Try.strings_Join (bk o c : Nat) (xs : List ByteArray) (sep : ByteArray) (w : World) (hcells : ∀ (j : Nat) x, xs[j]? = some x → w.cell? ⟨bk, o + j, none⟩ = some (.string x)) (hbk : bk < w.heap.size) (hN : xs.length ≤ 140737488355328) (hcap : xs.length ≤ c) (hlen : (Lib.join (xs.map (·.data.toList)) sep.data.toList).length ≤ 140737488355328) :
    Calls Try.prog 34 #[.slice (some ⟨bk, o, none⟩) xs.length c, .string sep] w fun e w' => e = .returned (.string ⟨(Lib.join (xs.map (·.data.toList)) sep.data.toList).toArray⟩) ∧ Below w.heap.size w w' := Any.strings_Join Try.lays156 Try.Builder_Extra_156 bk o c xs sep w hcells hbk hN hcap hlen
def Try.lays190_ren : Go.Shelf.Ren := ⟨fun | 190 => 28 | 125 => 33 | 258 => 32 | 128 => 45 | 129 => 46 | 302 => 37 | 303 => 38 | 304 => 39 | 305 => 40 | 306 => 41 | 307 => 42 | 308 => 35 | 309 => 43 | 310 => 44 | 333 => 51 | 329 => 52 | 330 => 53 | 334 => 54 | 335 => 55 | 336 => 50 | 344 => 58 | n => n, fun | 31 => 32 | 9 => 9 | 3 => 3 | 46 => 73 | 0 => 0 | 51 => 85 | 53 => 87 | 4 => 4 | 183 => 79 | 182 => 78 | 131 => 69 | 5 => 5 | 218 => 97 | 222 => 101 | 228 => 104 | 229 => 105 | n => n, fun | n => n⟩
theorem Try.lays190 : Go.Proofs.Lays.n190 Try.prog Try.lays190_ren := {
  mixed := by kernel_rfl
  f125 := Try.func33.trans (congrArg some (by kernel_rfl))
  f128 := Try.func45.trans (congrArg some (by kernel_rfl))
  f129 := Try.func46.trans (congrArg some (by kernel_rfl))
  f190 := Try.func28.trans (congrArg some (by kernel_rfl))
  f258 := Try.func32.trans (congrArg some (by kernel_rfl))
  f302 := Try.func37.trans (congrArg some (by kernel_rfl))
  f303 := Try.func38.trans (congrArg some (by kernel_rfl))
  f304 := Try.func39.trans (congrArg some (by kernel_rfl))
  f305 := Try.func40.trans (congrArg some (by kernel_rfl))
  f306 := Try.func41.trans (congrArg some (by kernel_rfl))
  f307 := Try.func42.trans (congrArg some (by kernel_rfl))
  f308 := Try.func35.trans (congrArg some (by kernel_rfl))
  f309 := Try.func43.trans (congrArg some (by kernel_rfl))
  f310 := Try.func44.trans (congrArg some (by kernel_rfl))
  f329 := Try.func52.trans (congrArg some (by kernel_rfl))
  f330 := Try.func53.trans (congrArg some (by kernel_rfl))
  f333 := Try.func51.trans (congrArg some (by kernel_rfl))
  f334 := Try.func54.trans (congrArg some (by kernel_rfl))
  f335 := Try.func55.trans (congrArg some (by kernel_rfl))
  f336 := Try.func50.trans (congrArg some (by kernel_rfl))
  f344 := Try.func58.trans (congrArg some (by kernel_rfl))
  t0 := Try.underlying0
  a0 := Try.isAgg0
  z0 := Try.sizeOf0
  v0 := Try.zeroValue0
  t3 := Try.underlying3
  a3 := Try.isAgg3
  z3 := Try.sizeOf3
  v3 := Try.zeroValue3
  t4 := Try.underlying4
  a4 := Try.isAgg4
  z4 := Try.sizeOf4
  v4 := Try.zeroValue4
  t5 := Try.underlying5
  a5 := Try.isAgg5
  z5 := Try.sizeOf5
  v5 := Try.zeroValue5
  t9 := Try.underlying9
  a9 := Try.isAgg9
  z9 := Try.sizeOf9
  v9 := Try.zeroValue9
  t31 := Try.underlying32
  a31 := Try.isAgg32
  z31 := Try.sizeOf32
  v31 := Try.zeroValue32
  t46 := Try.underlying73
  a46 := Try.isAgg73
  z46 := Try.sizeOf73
  v46 := Try.zeroValue73
  t51 := Try.underlying85
  a51 := Try.isAgg85
  z51 := Try.sizeOf85
  v51 := Try.zeroValue85
  t53 := Try.underlying87
  a53 := Try.isAgg87
  z53 := Try.sizeOf87
  v53 := Try.zeroValue87
  t131 := Try.underlying69
  a131 := Try.isAgg69
  z131 := Try.sizeOf69
  v131 := Try.zeroValue69
  t182 := Try.underlying78
  a182 := Try.isAgg78
  z182 := Try.sizeOf78
  v182 := Try.zeroValue78
  t183 := Try.underlying79
  a183 := Try.isAgg79
  z183 := Try.sizeOf79
  v183 := Try.zeroValue79
  t218 := Try.underlying97
  a218 := Try.isAgg97
  z218 := Try.sizeOf97
  v218 := Try.zeroValue97
  t222 := Try.underlying101
  a222 := Try.isAgg101
  z222 := Try.sizeOf101
  v222 := Try.zeroValue101
  t228 := Try.underlying104
  a228 := Try.isAgg104
  z228 := Try.sizeOf104
  v228 := Try.zeroValue104
  t229 := Try.underlying105
  a229 := Try.isAgg105
  z229 := Try.sizeOf105
  v229 := Try.zeroValue105 }
open Go.Sort Go.RowKit in
theorem Try.slices_Sort_string (blk off cap : Nat) (ss : List (List UInt8)) (w : World) (hH : Holds encStr w blk off ss.toArray) (hblk : blk < w.heap.size) (hsz : ss.length < 4611686018427387904) :
    Calls Try.prog 28 #[.slice (some ⟨blk, off, none⟩) ss.length cap] w fun e w' =>
      e = .returned (.tuple #[]) ∧ ∃ n os, w' = grow (putRow encStr (Sort.ahead w n) blk off (ss.mergeSort fun x y => decide (x ≤ y)).toArray) os := Any.slices_Sort_string Try.lays190 blk off cap ss w hH hblk hsz
def Try.lays194_ren : Go.Shelf.Ren := ⟨fun | 194 => 29 | n => n, fun | 31 => 32 | 9 => 9 | 3 => 3 | 4 => 4 | 0 => 0 | n => n, fun | n => n⟩
theorem Try.lays194 : Go.Proofs.Lays.n194 Try.prog Try.lays194_ren := {
  mixed := by kernel_rfl
  f194 := Try.func29.trans (congrArg some (by kernel_rfl))
  t0 := Try.underlying0
  a0 := Try.isAgg0
  z0 := Try.sizeOf0
  v0 := Try.zeroValue0
  t3 := Try.underlying3
  a3 := Try.isAgg3
  z3 := Try.sizeOf3
  v3 := Try.zeroValue3
  t4 := Try.underlying4
  a4 := Try.isAgg4
  z4 := Try.sizeOf4
  v4 := Try.zeroValue4
  t9 := Try.underlying9
  a9 := Try.isAgg9
  z9 := Try.sizeOf9
  v9 := Try.zeroValue9
  t31 := Try.underlying32
  a31 := Try.isAgg32
  z31 := Try.sizeOf32
  v31 := Try.zeroValue32 }
open Go.RowKit Go.Lib Go.Sort in
/-- slices.Compact at []string: "Compact replaces consecutive runs of equal elements with a single copy. This is like the uniq command found on Unix. Compact modifies the contents of the slice s and returns the modified slice, which may have a smaller length. Compact zeroes the elements between the new length and the original length. The result preserves the nilness of s.": IT RETURNS THE SLICE CUT TO 'Lib.compact zs'; ITS CELLS HOLD 'Lib.compact zs', THEN ZERO VALUES up to the old length; all else is as it was, but for the count of draws. IN THE WORDS OF slices.Sort's CONTRACT ('Holds', 'putRow'): so the everyday 'slices.Sort(xs); xs = slices.Compact(xs)' goes from the one contract to the other. It asks 'zs.length ≤ cap' (every slice's: the reslicing 's[:k]' looks at it). Length 0, nil: '.._empty'. (LAID: no walk: one application.) -/
theorem Try.slices_Compact_string (blk off cap : Nat) (zs : List (List UInt8)) (w : World) (hH : Holds encStr w blk off zs.toArray) (hsz : zs.length ≤ 9223372036854775807) (hcap : zs.length ≤ cap) :
    Calls Try.prog 29 #[.slice (some ⟨blk, off, none⟩) zs.length cap] w fun e w' => e = .returned (.slice (some ⟨blk, off, none⟩) (Lib.compact zs).length cap) ∧ ∃ q, w' = putRow encStr (Sort.ahead w q) blk off (Lib.compact zs ++ List.replicate (zs.length - (Lib.compact zs).length) []).toArray := Any.slices_Compact_string Try.lays194 blk off cap zs w hH hsz hcap
open Go.RowKit Go.Lib Go.Sort in
/-- The same at a slice of length 0, a nil one too: it comes back as it is. (LAID: no walk: one application.) -/
theorem Try.slices_Compact_string_empty (a : Option Addr) (cap : Nat) (w : World) :
    Calls Try.prog 29 #[.slice a 0 cap] w fun e w' => e = .returned (.slice a 0 cap) ∧ w' = w := Any.slices_Compact_string_empty Try.lays194 a cap w
open Go.RowKit Go.Sort in
/-- .. and plain. (LAID: no walk: one application.) -/
theorem Try.slices_Sort_string_none (p : Option Addr) (cap : Nat) (w : World) :
    Calls Try.prog 28 #[.slice p 0 cap] w fun e w' => e = .returned (.tuple #[]) ∧ w' = w := Any.slices_Sort_string_none Try.lays190 p cap w
def Try.lays26_ren : Go.Shelf.Ren := ⟨fun | 26 => 31 | 33 => 35 | 34 => 36 | 38 => 50 | n => n, fun | 24 => 32 | 9 => 9 | 3 => 3 | 4 => 4 | 40 => 73 | 0 => 0 | n => n, fun | n => n⟩
theorem Try.lays26 : Go.Proofs.Lays2.n26 Try.prog Try.lays26_ren := {
  mixed := by kernel_rfl
  f26 := Try.func31.trans (congrArg some (by kernel_rfl))
  f33 := Try.func35.trans (congrArg some (by kernel_rfl))
  f34 := Try.func36.trans (congrArg some (by kernel_rfl))
  f38 := Try.func50.trans (congrArg some (by kernel_rfl))
  t0 := Try.underlying0
  a0 := Try.isAgg0
  z0 := Try.sizeOf0
  v0 := Try.zeroValue0
  t3 := Try.underlying3
  a3 := Try.isAgg3
  z3 := Try.sizeOf3
  v3 := Try.zeroValue3
  t4 := Try.underlying4
  a4 := Try.isAgg4
  z4 := Try.sizeOf4
  v4 := Try.zeroValue4
  t9 := Try.underlying9
  a9 := Try.isAgg9
  z9 := Try.sizeOf9
  v9 := Try.zeroValue9
  t24 := Try.underlying32
  a24 := Try.isAgg32
  z24 := Try.sizeOf32
  v24 := Try.zeroValue32
  t40 := Try.underlying73
  a40 := Try.isAgg73
  z40 := Try.sizeOf73
  v40 := Try.zeroValue73 }
open Go.RowKit in
theorem Try.slices_BinarySearch_string (b off n c : Nat) (Sx : Nat → ByteArray) (x : ByteArray) (w : World) (hbig : n < 4611686018427387904) (hc : ∀ j, j < n → w.cell? ⟨b, off + j, none⟩ = some (.string (Sx j))) :
    Calls Try.prog 31 #[.slice (some ⟨b, off, none⟩) n c, .string x] w fun e w' =>
      e = .returned (.tuple #[.int .i64 (Lib.bsGo (fun t => Op.bytesLess (Sx t).toList x.toList) n 0 n : Nat), .bool (decide (Lib.bsGo (fun t => Op.bytesLess (Sx t).toList x.toList) n 0 n < n ∧ Sx (Lib.bsGo (fun t => Op.bytesLess (Sx t).toList x.toList) n 0 n) = x))]) ∧ ∃ q, w' = w.drewN q := Any2.slices_BinarySearch_string Try.lays26 b off n c Sx x w hbig hc
open Go.RowKit in
theorem Try.slices_BinarySearch_string_empty (a : Option Addr) (c : Nat) (x : ByteArray) (w : World) :
    Calls Try.prog 31 #[.slice a 0 c, .string x] w fun e w' => e = .returned (.tuple #[.int .i64 0, .bool false]) ∧ w' = w := Any2.slices_BinarySearch_string_empty Try.lays26 a c x w
end Go.Proofs
