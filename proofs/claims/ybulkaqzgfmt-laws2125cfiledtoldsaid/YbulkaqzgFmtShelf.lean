/-
  DERIVED: THE SHELF's CONTRACTS AT THIS DUMP, IN PLAIN WORDS (tools/lay-plain.mjs out of 'YbafShelf.lean', which tools/lay-shelf.mjs wrote): THE SAME DECLARATIONS UNDER THE SAME NAMES: 'import', 'namespace', 'open', 'def', 'theorem' AND NOTHING ELSE: no command of the shelf's: FOR A HAND-IN. Each laying: the table of numbers ('.._ren') and one theorem, a field a fact of the dump's own or the kernel's comparison; each contract: ONE APPLICATION.
-/
import Derived.Shelf.Sort.Plain
import Derived.Shelf.Slices.Equal
import Derived.Test.YbulkaqzgFmtProg
namespace Go.Proofs
open Go.Shelf
def Ybaf.lays190_ren : Go.Shelf.Ren := ⟨fun | 190 => 14 | 125 => 25 | 258 => 24 | 128 => 40 | 129 => 41 | 302 => 31 | 303 => 32 | 304 => 33 | 305 => 34 | 306 => 35 | 307 => 36 | 308 => 37 | 309 => 38 | 310 => 39 | 333 => 42 | 329 => 43 | 330 => 44 | 334 => 45 | 335 => 46 | 336 => 47 | 344 => 48 | n => n, fun | 31 => 31 | 9 => 9 | 3 => 3 | 46 => 85 | 0 => 0 | 51 => 59 | 53 => 104 | 4 => 4 | 183 => 95 | 182 => 94 | 131 => 100 | 5 => 5 | 218 => 108 | 222 => 112 | 228 => 115 | 229 => 116 | n => n, fun | n => n⟩
theorem Ybaf.lays190 : Go.Proofs.Lays.n190 Ybaf.prog Ybaf.lays190_ren := {
  mixed := by kernel_rfl
  f125 := Ybaf.func25.trans (congrArg some (by kernel_rfl))
  f128 := Ybaf.func40.trans (congrArg some (by kernel_rfl))
  f129 := Ybaf.func41.trans (congrArg some (by kernel_rfl))
  f190 := Ybaf.func14.trans (congrArg some (by kernel_rfl))
  f258 := Ybaf.func24.trans (congrArg some (by kernel_rfl))
  f302 := Ybaf.func31.trans (congrArg some (by kernel_rfl))
  f303 := Ybaf.func32.trans (congrArg some (by kernel_rfl))
  f304 := Ybaf.func33.trans (congrArg some (by kernel_rfl))
  f305 := Ybaf.func34.trans (congrArg some (by kernel_rfl))
  f306 := Ybaf.func35.trans (congrArg some (by kernel_rfl))
  f307 := Ybaf.func36.trans (congrArg some (by kernel_rfl))
  f308 := Ybaf.func37.trans (congrArg some (by kernel_rfl))
  f309 := Ybaf.func38.trans (congrArg some (by kernel_rfl))
  f310 := Ybaf.func39.trans (congrArg some (by kernel_rfl))
  f329 := Ybaf.func43.trans (congrArg some (by kernel_rfl))
  f330 := Ybaf.func44.trans (congrArg some (by kernel_rfl))
  f333 := Ybaf.func42.trans (congrArg some (by kernel_rfl))
  f334 := Ybaf.func45.trans (congrArg some (by kernel_rfl))
  f335 := Ybaf.func46.trans (congrArg some (by kernel_rfl))
  f336 := Ybaf.func47.trans (congrArg some (by kernel_rfl))
  f344 := Ybaf.func48.trans (congrArg some (by kernel_rfl))
  t0 := Ybaf.underlying0
  a0 := Ybaf.isAgg0
  z0 := Ybaf.sizeOf0
  v0 := Ybaf.zeroValue0
  t3 := Ybaf.underlying3
  a3 := Ybaf.isAgg3
  z3 := Ybaf.sizeOf3
  v3 := Ybaf.zeroValue3
  t4 := Ybaf.underlying4
  a4 := Ybaf.isAgg4
  z4 := Ybaf.sizeOf4
  v4 := Ybaf.zeroValue4
  t5 := Ybaf.underlying5
  a5 := Ybaf.isAgg5
  z5 := Ybaf.sizeOf5
  v5 := Ybaf.zeroValue5
  t9 := Ybaf.underlying9
  a9 := Ybaf.isAgg9
  z9 := Ybaf.sizeOf9
  v9 := Ybaf.zeroValue9
  t31 := Ybaf.underlying31
  a31 := Ybaf.isAgg31
  z31 := Ybaf.sizeOf31
  v31 := Ybaf.zeroValue31
  t46 := Ybaf.underlying85
  a46 := Ybaf.isAgg85
  z46 := Ybaf.sizeOf85
  v46 := Ybaf.zeroValue85
  t51 := Ybaf.underlying59
  a51 := Ybaf.isAgg59
  z51 := Ybaf.sizeOf59
  v51 := Ybaf.zeroValue59
  t53 := Ybaf.underlying104
  a53 := Ybaf.isAgg104
  z53 := Ybaf.sizeOf104
  v53 := Ybaf.zeroValue104
  t131 := Ybaf.underlying100
  a131 := Ybaf.isAgg100
  z131 := Ybaf.sizeOf100
  v131 := Ybaf.zeroValue100
  t182 := Ybaf.underlying94
  a182 := Ybaf.isAgg94
  z182 := Ybaf.sizeOf94
  v182 := Ybaf.zeroValue94
  t183 := Ybaf.underlying95
  a183 := Ybaf.isAgg95
  z183 := Ybaf.sizeOf95
  v183 := Ybaf.zeroValue95
  t218 := Ybaf.underlying108
  a218 := Ybaf.isAgg108
  z218 := Ybaf.sizeOf108
  v218 := Ybaf.zeroValue108
  t222 := Ybaf.underlying112
  a222 := Ybaf.isAgg112
  z222 := Ybaf.sizeOf112
  v222 := Ybaf.zeroValue112
  t228 := Ybaf.underlying115
  a228 := Ybaf.isAgg115
  z228 := Ybaf.sizeOf115
  v228 := Ybaf.zeroValue115
  t229 := Ybaf.underlying116
  a229 := Ybaf.isAgg116
  z229 := Ybaf.sizeOf116
  v229 := Ybaf.zeroValue116 }
open Go.Sort Go.RowKit in
theorem Ybaf.slices_Sort_string (blk off cap : Nat) (ss : List (List UInt8)) (w : World) (hH : Holds encStr w blk off ss.toArray) (hblk : blk < w.heap.size) (hsz : ss.length < 4611686018427387904) :
    Calls Ybaf.prog 14 #[.slice (some ⟨blk, off, none⟩) ss.length cap] w fun e w' =>
      e = .returned (.tuple #[]) ∧ ∃ n os, w' = grow (putRow encStr (Sort.ahead w n) blk off (ss.mergeSort fun x y => decide (x ≤ y)).toArray) os := Any.slices_Sort_string Ybaf.lays190 blk off cap ss w hH hblk hsz
def Ybaf.lays192_ren : Go.Shelf.Ren := ⟨fun | 192 => 8 | 190 => 14 | 125 => 25 | 258 => 24 | 128 => 40 | 129 => 41 | 302 => 31 | 303 => 32 | 304 => 33 | 305 => 34 | 306 => 35 | 307 => 36 | 308 => 37 | 309 => 38 | 310 => 39 | 333 => 42 | 329 => 43 | 330 => 44 | 334 => 45 | 335 => 46 | 336 => 47 | 344 => 48 | n => n, fun | 31 => 31 | 0 => 0 | 9 => 9 | 3 => 3 | 46 => 85 | 51 => 59 | 53 => 104 | 4 => 4 | 183 => 95 | 182 => 94 | 131 => 100 | 5 => 5 | 218 => 108 | 222 => 112 | 228 => 115 | 229 => 116 | n => n, fun | n => n⟩
theorem Ybaf.lays192 : Go.Proofs.Lays.n192 Ybaf.prog Ybaf.lays192_ren := {
  mixed := by kernel_rfl
  f125 := Ybaf.func25.trans (congrArg some (by kernel_rfl))
  f128 := Ybaf.func40.trans (congrArg some (by kernel_rfl))
  f129 := Ybaf.func41.trans (congrArg some (by kernel_rfl))
  f190 := Ybaf.func14.trans (congrArg some (by kernel_rfl))
  f192 := Ybaf.func8.trans (congrArg some (by kernel_rfl))
  f258 := Ybaf.func24.trans (congrArg some (by kernel_rfl))
  f302 := Ybaf.func31.trans (congrArg some (by kernel_rfl))
  f303 := Ybaf.func32.trans (congrArg some (by kernel_rfl))
  f304 := Ybaf.func33.trans (congrArg some (by kernel_rfl))
  f305 := Ybaf.func34.trans (congrArg some (by kernel_rfl))
  f306 := Ybaf.func35.trans (congrArg some (by kernel_rfl))
  f307 := Ybaf.func36.trans (congrArg some (by kernel_rfl))
  f308 := Ybaf.func37.trans (congrArg some (by kernel_rfl))
  f309 := Ybaf.func38.trans (congrArg some (by kernel_rfl))
  f310 := Ybaf.func39.trans (congrArg some (by kernel_rfl))
  f329 := Ybaf.func43.trans (congrArg some (by kernel_rfl))
  f330 := Ybaf.func44.trans (congrArg some (by kernel_rfl))
  f333 := Ybaf.func42.trans (congrArg some (by kernel_rfl))
  f334 := Ybaf.func45.trans (congrArg some (by kernel_rfl))
  f335 := Ybaf.func46.trans (congrArg some (by kernel_rfl))
  f336 := Ybaf.func47.trans (congrArg some (by kernel_rfl))
  f344 := Ybaf.func48.trans (congrArg some (by kernel_rfl))
  t0 := Ybaf.underlying0
  a0 := Ybaf.isAgg0
  z0 := Ybaf.sizeOf0
  v0 := Ybaf.zeroValue0
  t3 := Ybaf.underlying3
  a3 := Ybaf.isAgg3
  z3 := Ybaf.sizeOf3
  v3 := Ybaf.zeroValue3
  t4 := Ybaf.underlying4
  a4 := Ybaf.isAgg4
  z4 := Ybaf.sizeOf4
  v4 := Ybaf.zeroValue4
  t5 := Ybaf.underlying5
  a5 := Ybaf.isAgg5
  z5 := Ybaf.sizeOf5
  v5 := Ybaf.zeroValue5
  t9 := Ybaf.underlying9
  a9 := Ybaf.isAgg9
  z9 := Ybaf.sizeOf9
  v9 := Ybaf.zeroValue9
  t31 := Ybaf.underlying31
  a31 := Ybaf.isAgg31
  z31 := Ybaf.sizeOf31
  v31 := Ybaf.zeroValue31
  t46 := Ybaf.underlying85
  a46 := Ybaf.isAgg85
  z46 := Ybaf.sizeOf85
  v46 := Ybaf.zeroValue85
  t51 := Ybaf.underlying59
  a51 := Ybaf.isAgg59
  z51 := Ybaf.sizeOf59
  v51 := Ybaf.zeroValue59
  t53 := Ybaf.underlying104
  a53 := Ybaf.isAgg104
  z53 := Ybaf.sizeOf104
  v53 := Ybaf.zeroValue104
  t131 := Ybaf.underlying100
  a131 := Ybaf.isAgg100
  z131 := Ybaf.sizeOf100
  v131 := Ybaf.zeroValue100
  t182 := Ybaf.underlying94
  a182 := Ybaf.isAgg94
  z182 := Ybaf.sizeOf94
  v182 := Ybaf.zeroValue94
  t183 := Ybaf.underlying95
  a183 := Ybaf.isAgg95
  z183 := Ybaf.sizeOf95
  v183 := Ybaf.zeroValue95
  t218 := Ybaf.underlying108
  a218 := Ybaf.isAgg108
  z218 := Ybaf.sizeOf108
  v218 := Ybaf.zeroValue108
  t222 := Ybaf.underlying112
  a222 := Ybaf.isAgg112
  z222 := Ybaf.sizeOf112
  v222 := Ybaf.zeroValue112
  t228 := Ybaf.underlying115
  a228 := Ybaf.isAgg115
  z228 := Ybaf.sizeOf115
  v228 := Ybaf.zeroValue115
  t229 := Ybaf.underlying116
  a229 := Ybaf.isAgg116
  z229 := Ybaf.sizeOf116
  v229 := Ybaf.zeroValue116 }
open Go.Sort Go.RowKit in
theorem Ybaf.sort_Strings (blk off cap : Nat) (ss : List (List UInt8)) (w : World) (hH : Holds encStr w blk off ss.toArray) (hblk : blk < w.heap.size) (hsz : ss.length < 4611686018427387904) :
    Calls Ybaf.prog 8 #[.slice (some ⟨blk, off, none⟩) ss.length cap] w fun e w' =>
      e = .returned (.tuple #[]) ∧ ∃ n os, w' = grow (putRow encStr (Sort.ahead w n) blk off (ss.mergeSort fun x y => decide (x ≤ y)).toArray) os := Any.sort_Strings Ybaf.lays192 blk off cap ss w hH hblk hsz
def Ybaf.lays193_ren : Go.Shelf.Ren := ⟨fun | 193 => 10 | n => n, fun | 31 => 31 | 9 => 9 | 4 => 4 | 3 => 3 | 0 => 0 | n => n, fun | n => n⟩
theorem Ybaf.lays193 : Go.Proofs.Lays.n193 Ybaf.prog Ybaf.lays193_ren := {
  mixed := by kernel_rfl
  f193 := Ybaf.func10.trans (congrArg some (by kernel_rfl))
  t0 := Ybaf.underlying0
  a0 := Ybaf.isAgg0
  z0 := Ybaf.sizeOf0
  v0 := Ybaf.zeroValue0
  t3 := Ybaf.underlying3
  a3 := Ybaf.isAgg3
  z3 := Ybaf.sizeOf3
  v3 := Ybaf.zeroValue3
  t4 := Ybaf.underlying4
  a4 := Ybaf.isAgg4
  z4 := Ybaf.sizeOf4
  v4 := Ybaf.zeroValue4
  t9 := Ybaf.underlying9
  a9 := Ybaf.isAgg9
  z9 := Ybaf.sizeOf9
  v9 := Ybaf.zeroValue9
  t31 := Ybaf.underlying31
  a31 := Ybaf.isAgg31
  z31 := Ybaf.sizeOf31
  v31 := Ybaf.zeroValue31 }
open Go.RowKit Go.Lib in
/-- slices.Equal at []string: "Equal reports whether two slices are equal: the same length and all elements equal. If the lengths are different, Equal returns false. Otherwise, the elements are compared in increasing index order, and the comparison stops at the first unequal pair. Empty and nil slices are considered equal.": IT RETURNS WHETHER THE TWO LISTS OF ELEMENTS ARE ONE; the world is as it was but for the count of draws (the test 's1[i] != s2[i]' has two reads, whose order the model draws, once a round). 'xs', 'ys': what the cells behind the two addresses hold (the spare capacity too, if you have it); 'xs.take n', 'ys.take m': the elements. THE TWO SLICES MAY OVERLAP. (LAID: no walk: one application.) -/
theorem Ybaf.slices_Equal_string (b1 o1 n c b2 o2 m d : Nat) (xs ys : List ByteArray) (w : World) (hx : n ≤ xs.length) (hy : m ≤ ys.length) (hbig : n ≤ 9223372036854775807) (hbig2 : m ≤ 9223372036854775807) (hc1 : ∀ j, j < xs.length → w.cell? ⟨b1, o1 + j, none⟩ = some (.string (xs.getD j ByteArray.empty))) (hc2 : ∀ j, j < ys.length → w.cell? ⟨b2, o2 + j, none⟩ = some (.string (ys.getD j ByteArray.empty))) :
    Calls Ybaf.prog 10 #[.slice (some ⟨b1, o1, none⟩) n c, .slice (some ⟨b2, o2, none⟩) m d] w fun e w' => e = .returned (.bool (decide (xs.take n = ys.take m))) ∧ ∃ q, w' = w.drewN q := Any.slices_Equal_string Ybaf.lays193 b1 o1 n c b2 o2 m d xs ys w hx hy hbig hbig2 hc1 hc2
open Go.RowKit Go.Lib in
/-- The same where the first is of length 0 (a nil one too): no cell is asked for. (LAID: no walk: one application.) -/
theorem Ybaf.slices_Equal_string_empty (a1 a2 : Option Addr) (c m d : Nat) (w : World) (hbig2 : m ≤ 9223372036854775807) :
    Calls Ybaf.prog 10 #[.slice a1 0 c, .slice a2 m d] w fun e w' => e = .returned (.bool (decide (m = 0))) ∧ w' = w := Any.slices_Equal_string_empty Ybaf.lays193 a1 a2 c m d w hbig2
end Go.Proofs
