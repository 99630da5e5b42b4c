/-
  DERIVED: THE SHELF's CONTRACTS AT THIS DUMP, IN PLAIN WORDS (tools/lay-plain.mjs out of 'YbaShelf.lean', which tools/lay-shelf.mjs wrote): THE SAME DECLARATIONS UNDER THE SAME NAMES: 'import', 'namespace', 'open', 'def', 'theorem' AND NOTHING ELSE: no command of the shelf's: FOR A HAND-IN. Each laying: the table of numbers ('.._ren') and one theorem, a field a fact of the dump's own or the kernel's comparison; each contract: ONE APPLICATION.
-/
import Derived.Shelf.Sort.Plain
import Derived.Shelf.Slices.In.SortNone
import Derived.Test.YbulkbwcoRows
namespace Go.Proofs
open Go.Shelf
def Yba.lays190_ren : Go.Shelf.Ren := ⟨fun | 190 => 6 | 125 => 14 | 258 => 13 | 128 => 34 | 129 => 35 | 302 => 25 | 303 => 26 | 304 => 27 | 305 => 28 | 306 => 29 | 307 => 30 | 308 => 31 | 309 => 32 | 310 => 33 | 333 => 46 | 329 => 47 | 330 => 48 | 334 => 49 | 335 => 50 | 336 => 51 | 344 => 56 | n => n, fun | 31 => 22 | 9 => 9 | 3 => 3 | 46 => 66 | 0 => 0 | 51 => 80 | 53 => 46 | 4 => 4 | 183 => 73 | 182 => 72 | 131 => 39 | 5 => 5 | 218 => 90 | 222 => 94 | 228 => 102 | 229 => 103 | n => n, fun | n => n⟩
theorem Yba.lays190 : Go.Proofs.Lays.n190 Yba.prog Yba.lays190_ren := {
  mixed := by kernel_rfl
  f125 := Yba.func14.trans (congrArg some (by kernel_rfl))
  f128 := Yba.func34.trans (congrArg some (by kernel_rfl))
  f129 := Yba.func35.trans (congrArg some (by kernel_rfl))
  f190 := Yba.func6.trans (congrArg some (by kernel_rfl))
  f258 := Yba.func13.trans (congrArg some (by kernel_rfl))
  f302 := Yba.func25.trans (congrArg some (by kernel_rfl))
  f303 := Yba.func26.trans (congrArg some (by kernel_rfl))
  f304 := Yba.func27.trans (congrArg some (by kernel_rfl))
  f305 := Yba.func28.trans (congrArg some (by kernel_rfl))
  f306 := Yba.func29.trans (congrArg some (by kernel_rfl))
  f307 := Yba.func30.trans (congrArg some (by kernel_rfl))
  f308 := Yba.func31.trans (congrArg some (by kernel_rfl))
  f309 := Yba.func32.trans (congrArg some (by kernel_rfl))
  f310 := Yba.func33.trans (congrArg some (by kernel_rfl))
  f329 := Yba.func47.trans (congrArg some (by kernel_rfl))
  f330 := Yba.func48.trans (congrArg some (by kernel_rfl))
  f333 := Yba.func46.trans (congrArg some (by kernel_rfl))
  f334 := Yba.func49.trans (congrArg some (by kernel_rfl))
  f335 := Yba.func50.trans (congrArg some (by kernel_rfl))
  f336 := Yba.func51.trans (congrArg some (by kernel_rfl))
  f344 := Yba.func56.trans (congrArg some (by kernel_rfl))
  t0 := Yba.underlying0
  a0 := Yba.isAgg0
  z0 := Yba.sizeOf0
  v0 := Yba.zeroValue0
  t3 := Yba.underlying3
  a3 := Yba.isAgg3
  z3 := Yba.sizeOf3
  v3 := Yba.zeroValue3
  t4 := Yba.underlying4
  a4 := Yba.isAgg4
  z4 := Yba.sizeOf4
  v4 := Yba.zeroValue4
  t5 := Yba.underlying5
  a5 := Yba.isAgg5
  z5 := Yba.sizeOf5
  v5 := Yba.zeroValue5
  t9 := Yba.underlying9
  a9 := Yba.isAgg9
  z9 := Yba.sizeOf9
  v9 := Yba.zeroValue9
  t31 := Yba.underlying22
  a31 := Yba.isAgg22
  z31 := Yba.sizeOf22
  v31 := Yba.zeroValue22
  t46 := Yba.underlying66
  a46 := Yba.isAgg66
  z46 := Yba.sizeOf66
  v46 := Yba.zeroValue66
  t51 := Yba.underlying80
  a51 := Yba.isAgg80
  z51 := Yba.sizeOf80
  v51 := Yba.zeroValue80
  t53 := Yba.underlying46
  a53 := Yba.isAgg46
  z53 := Yba.sizeOf46
  v53 := Yba.zeroValue46
  t131 := Yba.underlying39
  a131 := Yba.isAgg39
  z131 := Yba.sizeOf39
  v131 := Yba.zeroValue39
  t182 := Yba.underlying72
  a182 := Yba.isAgg72
  z182 := Yba.sizeOf72
  v182 := Yba.zeroValue72
  t183 := Yba.underlying73
  a183 := Yba.isAgg73
  z183 := Yba.sizeOf73
  v183 := Yba.zeroValue73
  t218 := Yba.underlying90
  a218 := Yba.isAgg90
  z218 := Yba.sizeOf90
  v218 := Yba.zeroValue90
  t222 := Yba.underlying94
  a222 := Yba.isAgg94
  z222 := Yba.sizeOf94
  v222 := Yba.zeroValue94
  t228 := Yba.underlying102
  a228 := Yba.isAgg102
  z228 := Yba.sizeOf102
  v228 := Yba.zeroValue102
  t229 := Yba.underlying103
  a229 := Yba.isAgg103
  z229 := Yba.sizeOf103
  v229 := Yba.zeroValue103 }
open Go.Sort Go.RowKit in
theorem Yba.slices_Sort_string (blk off cap : Nat) (ss : List (List UInt8)) (w : World) (hH : Holds encStr w blk off ss.toArray) (hblk : blk < w.heap.size) (hsz : ss.length < 4611686018427387904) :
    Calls Yba.prog 6 #[.slice (some ⟨blk, off, none⟩) ss.length cap] w fun e w' =>
      e = .returned (.tuple #[]) ∧ ∃ n os, w' = grow (putRow encStr (Sort.ahead w n) blk off (ss.mergeSort fun x y => decide (x ≤ y)).toArray) os := Any.slices_Sort_string Yba.lays190 blk off cap ss w hH hblk hsz
open Go.RowKit Go.Sort in
/-- .. and plain. (LAID: no walk: one application.) -/
theorem Yba.slices_Sort_string_none (p : Option Addr) (cap : Nat) (w : World) :
    Calls Yba.prog 6 #[.slice p 0 cap] w fun e w' => e = .returned (.tuple #[]) ∧ w' = w := Any.slices_Sort_string_none Yba.lays190 p cap w
end Go.Proofs
