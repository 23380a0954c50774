/-
  DERIVED: THE SHELF's CONTRACTS AT THIS DUMP, IN PLAIN WORDS (tools/lay-plain.mjs out of 'TryShelf.lean', which tools/lay-shelf.mjs wrote): THE SAME DECLARATIONS UNDER THE SAME NAMES: 'import', 'namespace', 'open', 'def', 'theorem' AND NOTHING ELSE: no command of the shelf's: FOR A HAND-IN. Each laying: the table of numbers ('.._ren') and one theorem, a field a fact of the dump's own or the kernel's comparison; each contract: ONE APPLICATION.
-/
import Derived.Ground.Names2Prog
import Derived.Shelf.Slices.SearchI
import Derived.Shelf.Slices.Empties
import Derived.Test.Qxb6612677aProg
namespace Go.Proofs
open Go.Shelf
def Try.laysNm237_ren : Go.Shelf.Ren := ⟨fun | 37 => 28 | n => n, fun | 3 => 3 | 4 => 4 | n => n, fun | n => n⟩
theorem Try.laysNm237 : Go.Proofs.Lays2.n37 Try.prog Try.laysNm237_ren := {
  mixed := by kernel_rfl
  f37 := Try.func28.trans (congrArg some (by kernel_rfl))
  t3 := Try.underlying3
  a3 := Try.isAgg3
  z3 := Try.sizeOf3
  v3 := Try.zeroValue3
  t4 := Try.underlying4
  a4 := Try.isAgg4
  z4 := Try.sizeOf4
  v4 := Try.zeroValue4 }
open Go.RowKit Go.Lib in
/-- cmp.isNaN[int]: 'x != x': false. (LAID: no walk: one application.) -/
theorem Try.cmp_isNaN_int2 (x : Int) (w : World) :
    Calls Try.prog 28 #[.int .i64 x] w fun e w' => e = .returned (.bool false) ∧ w' = w := Any.cmp_isNaN_int2 Try.laysNm237 x w
def Try.laysNm232_ren : Go.Shelf.Ren := ⟨fun | 32 => 27 | n => n, fun | 3 => 3 | 4 => 4 | n => n, fun | n => n⟩
theorem Try.laysNm232 : Go.Proofs.Lays2.n32 Try.prog Try.laysNm232_ren := {
  mixed := by kernel_rfl
  f32 := Try.func27.trans (congrArg some (by kernel_rfl))
  t3 := Try.underlying3
  a3 := Try.isAgg3
  z3 := Try.sizeOf3
  v3 := Try.zeroValue3
  t4 := Try.underlying4
  a4 := Try.isAgg4
  z4 := Try.sizeOf4
  v4 := Try.zeroValue4 }
open Go.RowKit Go.Lib in
/-- slices.isNaN[int]: 'x != x': false. (LAID: no walk: one application.) -/
theorem Try.slices_isNaN_int2 (x : Int) (w : World) :
    Calls Try.prog 27 #[.int .i64 x] w fun e w' => e = .returned (.bool false) ∧ w' = w := Any.slices_isNaN_int2 Try.laysNm232 x w
def Try.laysNm231_ren : Go.Shelf.Ren := ⟨fun | 31 => 26 | 37 => 28 | n => n, fun | 3 => 3 | 4 => 4 | n => n, fun | n => n⟩
theorem Try.laysNm231 : Go.Proofs.Lays2.n31 Try.prog Try.laysNm231_ren := {
  mixed := by kernel_rfl
  f31 := Try.func26.trans (congrArg some (by kernel_rfl))
  f37 := Try.func28.trans (congrArg some (by kernel_rfl))
  t3 := Try.underlying3
  a3 := Try.isAgg3
  z3 := Try.sizeOf3
  v3 := Try.zeroValue3
  t4 := Try.underlying4
  a4 := Try.isAgg4
  z4 := Try.sizeOf4
  v4 := Try.zeroValue4 }
open Go.RowKit Go.Lib in
/-- cmp.Less[int]: "Less reports whether x is less than y.": 'x < y'; the world is as it was. (LAID: no walk: one application.) -/
theorem Try.cmp_Less_int2 (x y : Int) (w : World) :
    Calls Try.prog 26 #[.int .i64 x, .int .i64 y] w fun e w' => e = .returned (.bool (decide (x < y))) ∧ w' = w := Any.cmp_Less_int2 Try.laysNm231 x y w
def Try.laysNm225_ren : Go.Shelf.Ren := ⟨fun | 25 => 25 | 31 => 26 | 32 => 27 | 37 => 28 | n => n, fun | 22 => 37 | 3 => 3 | 4 => 4 | 40 => 58 | 0 => 0 | n => n, fun | n => n⟩
theorem Try.laysNm225 : Go.Proofs.Lays2.n25 Try.prog Try.laysNm225_ren := {
  mixed := by kernel_rfl
  f25 := Try.func25.trans (congrArg some (by kernel_rfl))
  f31 := Try.func26.trans (congrArg some (by kernel_rfl))
  f32 := Try.func27.trans (congrArg some (by kernel_rfl))
  f37 := Try.func28.trans (congrArg some (by kernel_rfl))
  t0 := Try.underlying0
  a0 := Try.isAgg0
  z0 := Try.sizeOf0
  v0 := Try.zeroValue0
  t3 := Try.underlying3
  a3 := Try.isAgg3
  z3 := Try.sizeOf3
  v3 := Try.zeroValue3
  t4 := Try.underlying4
  a4 := Try.isAgg4
  z4 := Try.sizeOf4
  v4 := Try.zeroValue4
  t22 := Try.underlying37
  a22 := Try.isAgg37
  z22 := Try.sizeOf37
  v22 := Try.zeroValue37
  t40 := Try.underlying58
  a40 := Try.isAgg58
  z40 := Try.sizeOf58
  v40 := Try.zeroValue58 }
open Go.RowKit Go.Lib in
/-- slices.BinarySearch at []int: "BinarySearch searches for target in a sorted slice and returns the earliest position where target is found, or the position where target would appear in the sort order; it also returns a bool saying whether the target is really found in the slice. The slice must be sorted in increasing order.": OF A SORTED SLICE IT RETURNS how many elements are less than the target, and whether the target is among the elements; the world is as it was but for the count of draws. 'zs': what the cells behind the slice's address hold; 'zs.take n': its elements. (Of a slice that is not sorted: no contract here.) (LAID: no walk: one application.) -/
theorem Try.slices_BinarySearch_int (b off n c : Nat) (zs : List Int) (x : Int) (w : World) (hz : n ≤ zs.length) (hbig : n < 4611686018427387904) (hc : ∀ j, j < zs.length → w.cell? ⟨b, off + j, none⟩ = some (.int .i64 (zs.getD j 0))) (hs : (zs.take n).Pairwise (· ≤ ·)) :
    Calls Try.prog 25 #[.slice (some ⟨b, off, none⟩) n c, .int .i64 x] w fun e w' => e = .returned (.tuple #[.int .i64 ((zs.take n).countP (· < x) : Nat), .bool ((zs.take n).contains x)]) ∧ ∃ q, w' = w.drewN q := Any.slices_BinarySearch_int Try.laysNm225 b off n c zs x w hz hbig hc hs
open Go.RowKit Go.Lib in
/-- slices.BinarySearch at []int of no element: position 0, not found; the world is as it was. (LAID: no walk: one application.) -/
theorem Try.slices_BinarySearch_int_empty (a : Option Addr) (c : Nat) (x : Int) (w : World) :
    Calls Try.prog 25 #[.slice a 0 c, .int .i64 x] w fun e w' => e = .returned (.tuple #[.int .i64 0, .bool false]) ∧ w' = w := Any.slices_BinarySearch_int_empty Try.laysNm225 a c x w
end Go.Proofs
