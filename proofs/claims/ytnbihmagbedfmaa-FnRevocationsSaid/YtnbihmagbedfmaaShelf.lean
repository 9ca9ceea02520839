/-
  DERIVED: THE SHELF's CONTRACTS AT THIS DUMP, IN PLAIN WORDS (tools/lay-plain.mjs out of 'YtnbihmagbedfmaaShelf.lean', which tools/lay-shelf.mjs wrote): THE SAME DECLARATIONS UNDER THE SAME NAMES: 'import', 'namespace', 'open', 'def', 'theorem' AND NOTHING ELSE: no command of the shelf's: FOR A HAND-IN. Each laying: the table of numbers ('.._ren') and one theorem, a field a fact of the dump's own or the kernel's comparison; each contract: ONE APPLICATION.
-/
import Derived.Shelf.Sort.Plain
import Derived.Shelf.Slices.In.SortNone
import Derived.Test.YtnbihmagbedfmaaProg
namespace Go.Proofs
open Go.Shelf
def Try.lays190_ren : Go.Shelf.Ren := ⟨fun | 190 => 54 | 125 => 50 | 258 => 66 | 128 => 63 | 129 => 64 | 302 => 72 | 303 => 73 | 304 => 74 | 305 => 75 | 306 => 76 | 307 => 77 | 308 => 78 | 309 => 79 | 310 => 80 | 333 => 82 | 329 => 68 | 330 => 69 | 334 => 83 | 335 => 84 | 336 => 85 | 344 => 86 | n => n, fun | 31 => 26 | 9 => 9 | 3 => 3 | 46 => 90 | 0 => 0 | 51 => 109 | 53 => 67 | 4 => 4 | 183 => 102 | 182 => 101 | 131 => 106 | 5 => 5 | 218 => 113 | 222 => 117 | 228 => 124 | 229 => 125 | n => n, fun | n => n⟩
theorem Try.lays190 : Go.Proofs.Lays.n190 Try.prog Try.lays190_ren := {
  mixed := by kernel_rfl
  f125 := Try.func50.trans (congrArg some (by kernel_rfl))
  f128 := Try.func63.trans (congrArg some (by kernel_rfl))
  f129 := Try.func64.trans (congrArg some (by kernel_rfl))
  f190 := Try.func54.trans (congrArg some (by kernel_rfl))
  f258 := Try.func66.trans (congrArg some (by kernel_rfl))
  f302 := Try.func72.trans (congrArg some (by kernel_rfl))
  f303 := Try.func73.trans (congrArg some (by kernel_rfl))
  f304 := Try.func74.trans (congrArg some (by kernel_rfl))
  f305 := Try.func75.trans (congrArg some (by kernel_rfl))
  f306 := Try.func76.trans (congrArg some (by kernel_rfl))
  f307 := Try.func77.trans (congrArg some (by kernel_rfl))
  f308 := Try.func78.trans (congrArg some (by kernel_rfl))
  f309 := Try.func79.trans (congrArg some (by kernel_rfl))
  f310 := Try.func80.trans (congrArg some (by kernel_rfl))
  f329 := Try.func68.trans (congrArg some (by kernel_rfl))
  f330 := Try.func69.trans (congrArg some (by kernel_rfl))
  f333 := Try.func82.trans (congrArg some (by kernel_rfl))
  f334 := Try.func83.trans (congrArg some (by kernel_rfl))
  f335 := Try.func84.trans (congrArg some (by kernel_rfl))
  f336 := Try.func85.trans (congrArg some (by kernel_rfl))
  f344 := Try.func86.trans (congrArg some (by kernel_rfl))
  t0 := Try.underlying0
  a0 := Try.isAgg0
  z0 := Try.sizeOf0
  v0 := Try.zeroValue0
  t3 := Try.underlying3
  a3 := Try.isAgg3
  z3 := Try.sizeOf3
  v3 := Try.zeroValue3
  t4 := Try.underlying4
  a4 := Try.isAgg4
  z4 := Try.sizeOf4
  v4 := Try.zeroValue4
  t5 := Try.underlying5
  a5 := Try.isAgg5
  z5 := Try.sizeOf5
  v5 := Try.zeroValue5
  t9 := Try.underlying9
  a9 := Try.isAgg9
  z9 := Try.sizeOf9
  v9 := Try.zeroValue9
  t31 := Try.underlying26
  a31 := Try.isAgg26
  z31 := Try.sizeOf26
  v31 := Try.zeroValue26
  t46 := Try.underlying90
  a46 := Try.isAgg90
  z46 := Try.sizeOf90
  v46 := Try.zeroValue90
  t51 := Try.underlying109
  a51 := Try.isAgg109
  z51 := Try.sizeOf109
  v51 := Try.zeroValue109
  t53 := Try.underlying67
  a53 := Try.isAgg67
  z53 := Try.sizeOf67
  v53 := Try.zeroValue67
  t131 := Try.underlying106
  a131 := Try.isAgg106
  z131 := Try.sizeOf106
  v131 := Try.zeroValue106
  t182 := Try.underlying101
  a182 := Try.isAgg101
  z182 := Try.sizeOf101
  v182 := Try.zeroValue101
  t183 := Try.underlying102
  a183 := Try.isAgg102
  z183 := Try.sizeOf102
  v183 := Try.zeroValue102
  t218 := Try.underlying113
  a218 := Try.isAgg113
  z218 := Try.sizeOf113
  v218 := Try.zeroValue113
  t222 := Try.underlying117
  a222 := Try.isAgg117
  z222 := Try.sizeOf117
  v222 := Try.zeroValue117
  t228 := Try.underlying124
  a228 := Try.isAgg124
  z228 := Try.sizeOf124
  v228 := Try.zeroValue124
  t229 := Try.underlying125
  a229 := Try.isAgg125
  z229 := Try.sizeOf125
  v229 := Try.zeroValue125 }
open Go.Sort Go.RowKit in
theorem Try.slices_Sort_string (blk off cap : Nat) (ss : List (List UInt8)) (w : World) (hH : Holds encStr w blk off ss.toArray) (hblk : blk < w.heap.size) (hsz : ss.length < 4611686018427387904) :
    Calls Try.prog 54 #[.slice (some ⟨blk, off, none⟩) ss.length cap] w fun e w' =>
      e = .returned (.tuple #[]) ∧ ∃ n os, w' = grow (putRow encStr (Sort.ahead w n) blk off (ss.mergeSort fun x y => decide (x ≤ y)).toArray) os := Any.slices_Sort_string Try.lays190 blk off cap ss w hH hblk hsz
open Go.RowKit Go.Sort in
/-- .. and plain. (LAID: no walk: one application.) -/
theorem Try.slices_Sort_string_none (p : Option Addr) (cap : Nat) (w : World) :
    Calls Try.prog 54 #[.slice p 0 cap] w fun e w' => e = .returned (.tuple #[]) ∧ w' = w := Any.slices_Sort_string_none Try.lays190 p cap w
end Go.Proofs
