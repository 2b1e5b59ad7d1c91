/-
  DERIVED: THE SHELF's CONTRACTS AT THIS DUMP, IN PLAIN WORDS (tools/lay-plain.mjs out of 'TryShelf.lean', which tools/lay-shelf.mjs wrote): THE SAME DECLARATIONS UNDER THE SAME NAMES: 'import', 'namespace', 'open', 'def', 'theorem' AND NOTHING ELSE: no command of the shelf's: FOR A HAND-IN. Each laying: the table of numbers ('.._ren') and one theorem, a field a fact of the dump's own or the kernel's comparison; each contract: ONE APPLICATION.
-/
import Derived.Shelf.Sort.Plain
import Derived.Ground.Names2Prog
import Derived.Shelf.Slices.CompactI
import Derived.Shelf.Slices.In.SortNone
import Derived.Test.Qxb6603214aProg
namespace Go.Proofs
open Go.Shelf
def Try.lays189_ren : Go.Shelf.Ren := ⟨fun | 189 => 43 | 125 => 46 | 257 => 45 | 128 => 56 | 129 => 57 | 294 => 47 | 295 => 48 | 296 => 49 | 297 => 50 | 298 => 51 | 299 => 52 | 216 => 53 | 300 => 54 | 301 => 55 | 328 => 58 | 329 => 59 | 330 => 60 | 331 => 61 | 332 => 62 | 215 => 63 | 343 => 64 | n => n, fun | 28 => 23 | 3 => 3 | 46 => 88 | 0 => 0 | 51 => 99 | 53 => 101 | 4 => 4 | 183 => 91 | 182 => 90 | 131 => 96 | 5 => 5 | 9 => 9 | 218 => 102 | 222 => 106 | 228 => 109 | 229 => 110 | n => n, fun | n => n⟩
theorem Try.lays189 : Go.Proofs.Lays.n189 Try.prog Try.lays189_ren := {
  mixed := by kernel_rfl
  f125 := Try.func46.trans (congrArg some (by kernel_rfl))
  f128 := Try.func56.trans (congrArg some (by kernel_rfl))
  f129 := Try.func57.trans (congrArg some (by kernel_rfl))
  f189 := Try.func43.trans (congrArg some (by kernel_rfl))
  f215 := Try.func63.trans (congrArg some (by kernel_rfl))
  f216 := Try.func53.trans (congrArg some (by kernel_rfl))
  f257 := Try.func45.trans (congrArg some (by kernel_rfl))
  f294 := Try.func47.trans (congrArg some (by kernel_rfl))
  f295 := Try.func48.trans (congrArg some (by kernel_rfl))
  f296 := Try.func49.trans (congrArg some (by kernel_rfl))
  f297 := Try.func50.trans (congrArg some (by kernel_rfl))
  f298 := Try.func51.trans (congrArg some (by kernel_rfl))
  f299 := Try.func52.trans (congrArg some (by kernel_rfl))
  f300 := Try.func54.trans (congrArg some (by kernel_rfl))
  f301 := Try.func55.trans (congrArg some (by kernel_rfl))
  f328 := Try.func58.trans (congrArg some (by kernel_rfl))
  f329 := Try.func59.trans (congrArg some (by kernel_rfl))
  f330 := Try.func60.trans (congrArg some (by kernel_rfl))
  f331 := Try.func61.trans (congrArg some (by kernel_rfl))
  f332 := Try.func62.trans (congrArg some (by kernel_rfl))
  f343 := Try.func64.trans (congrArg some (by kernel_rfl))
  t0 := Try.underlying0
  a0 := Try.isAgg0
  z0 := Try.sizeOf0
  v0 := Try.zeroValue0
  t3 := Try.underlying3
  a3 := Try.isAgg3
  z3 := Try.sizeOf3
  v3 := Try.zeroValue3
  t4 := Try.underlying4
  a4 := Try.isAgg4
  z4 := Try.sizeOf4
  v4 := Try.zeroValue4
  t5 := Try.underlying5
  a5 := Try.isAgg5
  z5 := Try.sizeOf5
  v5 := Try.zeroValue5
  t9 := Try.underlying9
  a9 := Try.isAgg9
  z9 := Try.sizeOf9
  v9 := Try.zeroValue9
  t28 := Try.underlying23
  a28 := Try.isAgg23
  z28 := Try.sizeOf23
  v28 := Try.zeroValue23
  t46 := Try.underlying88
  a46 := Try.isAgg88
  z46 := Try.sizeOf88
  v46 := Try.zeroValue88
  t51 := Try.underlying99
  a51 := Try.isAgg99
  z51 := Try.sizeOf99
  v51 := Try.zeroValue99
  t53 := Try.underlying101
  a53 := Try.isAgg101
  z53 := Try.sizeOf101
  v53 := Try.zeroValue101
  t131 := Try.underlying96
  a131 := Try.isAgg96
  z131 := Try.sizeOf96
  v131 := Try.zeroValue96
  t182 := Try.underlying90
  a182 := Try.isAgg90
  z182 := Try.sizeOf90
  v182 := Try.zeroValue90
  t183 := Try.underlying91
  a183 := Try.isAgg91
  z183 := Try.sizeOf91
  v183 := Try.zeroValue91
  t218 := Try.underlying102
  a218 := Try.isAgg102
  z218 := Try.sizeOf102
  v218 := Try.zeroValue102
  t222 := Try.underlying106
  a222 := Try.isAgg106
  z222 := Try.sizeOf106
  v222 := Try.zeroValue106
  t228 := Try.underlying109
  a228 := Try.isAgg109
  z228 := Try.sizeOf109
  v228 := Try.zeroValue109
  t229 := Try.underlying110
  a229 := Try.isAgg110
  z229 := Try.sizeOf110
  v229 := Try.zeroValue110 }
open Go.Sort Go.RowKit in
theorem Try.slices_Sort_int (blk off cap : Nat) (zs : List Int) (w : World) (hH : Holds (Value.int .i64) w blk off zs.toArray) (hblk : blk < w.heap.size) (hsz : zs.length < 4611686018427387904) :
    Calls Try.prog 43 #[.slice (some ⟨blk, off, none⟩) zs.length cap] w fun e w' =>
      e = .returned (.tuple #[]) ∧ ∃ n os, w' = grow (putRow (Value.int .i64) (Sort.ahead w n) blk off (zs.mergeSort fun x y => decide (x ≤ y)).toArray) os := Any.slices_Sort_int Try.lays189 blk off cap zs w hH hblk hsz
def Try.laysNm220_ren : Go.Shelf.Ren := ⟨fun | 20 => 44 | n => n, fun | 22 => 23 | 3 => 3 | 4 => 4 | 0 => 0 | n => n, fun | n => n⟩
theorem Try.laysNm220 : Go.Proofs.Lays2.n20 Try.prog Try.laysNm220_ren := {
  mixed := by kernel_rfl
  f20 := Try.func44.trans (congrArg some (by kernel_rfl))
  t0 := Try.underlying0
  a0 := Try.isAgg0
  z0 := Try.sizeOf0
  v0 := Try.zeroValue0
  t3 := Try.underlying3
  a3 := Try.isAgg3
  z3 := Try.sizeOf3
  v3 := Try.zeroValue3
  t4 := Try.underlying4
  a4 := Try.isAgg4
  z4 := Try.sizeOf4
  v4 := Try.zeroValue4
  t22 := Try.underlying23
  a22 := Try.isAgg23
  z22 := Try.sizeOf23
  v22 := Try.zeroValue23
  i3 := by kernel_rfl }
open Go.RowKit Go.Lib Go.Sort in
/-- slices.Compact at []int: "Compact replaces consecutive runs of equal elements with a single copy. This is like the uniq command found on Unix. Compact modifies the contents of the slice s and returns the modified slice, which may have a smaller length. Compact zeroes the elements between the new length and the original length. The result preserves the nilness of s.": IT RETURNS THE SLICE CUT TO 'Lib.compact zs'; ITS CELLS HOLD 'Lib.compact zs', THEN ZERO VALUES up to the old length; all else is as it was, but for the count of draws. IN THE WORDS OF slices.Sort's CONTRACT ('Holds', 'putRow'): so the everyday 'slices.Sort(xs); xs = slices.Compact(xs)' goes from the one contract to the other. It asks 'zs.length ≤ cap' (every slice's: the reslicing 's[:k]' looks at it). Length 0, nil: '.._empty'. (LAID: no walk: one application.) -/
theorem Try.slices_Compact_int (blk off cap : Nat) (zs : List Int) (w : World) (hH : Holds (Value.int .i64) w blk off zs.toArray) (hsz : zs.length ≤ 9223372036854775807) (hcap : zs.length ≤ cap) :
    Calls Try.prog 44 #[.slice (some ⟨blk, off, none⟩) zs.length cap] w fun e w' => e = .returned (.slice (some ⟨blk, off, none⟩) (Lib.compact zs).length cap) ∧ ∃ q, w' = putRow (Value.int .i64) (Sort.ahead w q) blk off (Lib.compact zs ++ List.replicate (zs.length - (Lib.compact zs).length) 0).toArray := Any.slices_Compact_int Try.laysNm220 blk off cap zs w hH hsz hcap
open Go.RowKit Go.Lib Go.Sort in
/-- The same at a slice of length 0, a nil one too: it comes back as it is. (LAID: no walk: one application.) -/
theorem Try.slices_Compact_int_empty (a : Option Addr) (cap : Nat) (w : World) :
    Calls Try.prog 44 #[.slice a 0 cap] w fun e w' => e = .returned (.slice a 0 cap) ∧ w' = w := Any.slices_Compact_int_empty Try.laysNm220 a cap w
open Go.RowKit Go.Sort in
/-- .. and plain. (LAID: no walk: one application.) -/
theorem Try.slices_Sort_int_none (p : Option Addr) (cap : Nat) (w : World) :
    Calls Try.prog 43 #[.slice p 0 cap] w fun e w' => e = .returned (.tuple #[]) ∧ w' = w := Any.slices_Sort_int_none Try.lays189 p cap w
end Go.Proofs
