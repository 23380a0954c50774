/-
  DERIVED: THE SHELF's CONTRACTS AT THIS DUMP, IN PLAIN WORDS (tools/lay-plain.mjs out of 'TryfShelf.lean', which tools/lay-shelf.mjs wrote): THE SAME DECLARATIONS UNDER THE SAME NAMES: 'import', 'namespace', 'open', 'def', 'theorem' AND NOTHING ELSE: no command of the shelf's: FOR A HAND-IN. Each laying: the table of numbers ('.._ren') and one theorem, a field a fact of the dump's own or the kernel's comparison; each contract: ONE APPLICATION.
-/
import Derived.Shelf.Small.Bits
import Derived.Shelf.Strconv.Itoa0
import Derived.Ground.MnProg
import Derived.Shelf.Bin.BEUint16
import Derived.Shelf.Bin.BEPutUint16
import Derived.Shelf.Bin.ReadersZ
import Derived.Ground.Names2Prog
import Derived.Shelf.Slices.SearchI
import Derived.Test.Qxb6612825aFmtProg
namespace Go.Proofs
open Go.Shelf
def Tryf.lays128_ren : Go.Shelf.Ren := ⟨fun | 128 => 45 | n => n, fun | 51 => 68 | 3 => 3 | 4 => 4 | 46 => 37 | 5 => 5 | 9 => 9 | n => n, fun | n => n⟩
theorem Tryf.lays128 : Go.Proofs.Lays.n128 Tryf.prog Tryf.lays128_ren := {
  mixed := by kernel_rfl
  f128 := Tryf.func45.trans (congrArg some (by kernel_rfl))
  t3 := Tryf.underlying3
  a3 := Tryf.isAgg3
  z3 := Tryf.sizeOf3
  v3 := Tryf.zeroValue3
  t4 := Tryf.underlying4
  a4 := Tryf.isAgg4
  z4 := Tryf.sizeOf4
  v4 := Tryf.zeroValue4
  t5 := Tryf.underlying5
  a5 := Tryf.isAgg5
  z5 := Tryf.sizeOf5
  v5 := Tryf.zeroValue5
  t9 := Tryf.underlying9
  a9 := Tryf.isAgg9
  z9 := Tryf.sizeOf9
  v9 := Tryf.zeroValue9
  t46 := Tryf.underlying37
  a46 := Tryf.isAgg37
  z46 := Tryf.sizeOf37
  v46 := Tryf.zeroValue37
  t51 := Tryf.underlying68
  a51 := Tryf.isAgg68
  z51 := Tryf.sizeOf68
  v51 := Tryf.zeroValue68 }
/-- bits.Len32: "Len32 returns the minimum number of bits required to represent x; the result is 0 for x == 0.": IT RETURNS 'Lib.bitLen x'; the world is as it was. ('h0', 'h1': x is a uint32.) (LAID: no walk: one application.) -/
theorem Tryf.bits_Len32 (x : Int) (w : World) (h0 : 0 ≤ x) (h1 : x ≤ 4294967295) :
    Calls Tryf.prog 45 #[.int .u32 x] w fun e w' => e = .returned (.int .i64 (Lib.bitLen x.toNat)) ∧ w' = w := Any.bits_Len32 Tryf.lays128 x w h0 h1
def Tryf.lays125_ren : Go.Shelf.Ren := ⟨fun | 125 => 35 | 128 => 45 | 129 => 46 | n => n, fun | 46 => 37 | 3 => 3 | 51 => 68 | 53 => 70 | 4 => 4 | 5 => 5 | 9 => 9 | n => n, fun | n => n⟩
theorem Tryf.lays125 : Go.Proofs.Lays.n125 Tryf.prog Tryf.lays125_ren := {
  mixed := by kernel_rfl
  f125 := Tryf.func35.trans (congrArg some (by kernel_rfl))
  f128 := Tryf.func45.trans (congrArg some (by kernel_rfl))
  f129 := Tryf.func46.trans (congrArg some (by kernel_rfl))
  t3 := Tryf.underlying3
  a3 := Tryf.isAgg3
  z3 := Tryf.sizeOf3
  v3 := Tryf.zeroValue3
  t4 := Tryf.underlying4
  a4 := Tryf.isAgg4
  z4 := Tryf.sizeOf4
  v4 := Tryf.zeroValue4
  t5 := Tryf.underlying5
  a5 := Tryf.isAgg5
  z5 := Tryf.sizeOf5
  v5 := Tryf.zeroValue5
  t9 := Tryf.underlying9
  a9 := Tryf.isAgg9
  z9 := Tryf.sizeOf9
  v9 := Tryf.zeroValue9
  t46 := Tryf.underlying37
  a46 := Tryf.isAgg37
  z46 := Tryf.sizeOf37
  v46 := Tryf.zeroValue37
  t51 := Tryf.underlying68
  a51 := Tryf.isAgg68
  z51 := Tryf.sizeOf68
  v51 := Tryf.zeroValue68
  t53 := Tryf.underlying70
  a53 := Tryf.isAgg70
  z53 := Tryf.sizeOf70
  v53 := Tryf.zeroValue70 }
/-- bits.Len: "Len returns the minimum number of bits required to represent x; the result is 0 for x == 0.": IT RETURNS 'Lib.bitLen x'; the world is as it was. (A uint has 64 bits in the model.) ITS CALLEE bits.Len64 IS MET BY ITS OWN CONTRACT OFF THE SHELF (lay that first). (LAID: no walk: one application.) -/
theorem Tryf.bits_Len (x : Int) (w : World) (h0 : 0 ≤ x) (h1 : x ≤ 18446744073709551615) :
    Calls Tryf.prog 35 #[.int .u64 x] w fun e w' => e = .returned (.int .i64 (Lib.bitLen x.toNat)) ∧ w' = w := Any.bits_Len Tryf.lays125 x w h0 h1
def Tryf.lays129_ren : Go.Shelf.Ren := ⟨fun | 129 => 46 | n => n, fun | 53 => 70 | 3 => 3 | 4 => 4 | 46 => 37 | 5 => 5 | 9 => 9 | n => n, fun | n => n⟩
theorem Tryf.lays129 : Go.Proofs.Lays.n129 Tryf.prog Tryf.lays129_ren := {
  mixed := by kernel_rfl
  f129 := Tryf.func46.trans (congrArg some (by kernel_rfl))
  t3 := Tryf.underlying3
  a3 := Tryf.isAgg3
  z3 := Tryf.sizeOf3
  v3 := Tryf.zeroValue3
  t4 := Tryf.underlying4
  a4 := Tryf.isAgg4
  z4 := Tryf.sizeOf4
  v4 := Tryf.zeroValue4
  t5 := Tryf.underlying5
  a5 := Tryf.isAgg5
  z5 := Tryf.sizeOf5
  v5 := Tryf.zeroValue5
  t9 := Tryf.underlying9
  a9 := Tryf.isAgg9
  z9 := Tryf.sizeOf9
  v9 := Tryf.zeroValue9
  t46 := Tryf.underlying37
  a46 := Tryf.isAgg37
  z46 := Tryf.sizeOf37
  v46 := Tryf.zeroValue37
  t53 := Tryf.underlying70
  a53 := Tryf.isAgg70
  z53 := Tryf.sizeOf70
  v53 := Tryf.zeroValue70 }
/-- bits.Len64: "Len64 returns the minimum number of bits required to represent x; the result is 0 for x == 0.": IT RETURNS 'Lib.bitLen x'; the world is as it was. ('h0', 'h1': x is a uint64.) (LAID: no walk: one application.) -/
theorem Tryf.bits_Len64 (x : Int) (w : World) (h0 : 0 ≤ x) (h1 : x ≤ 18446744073709551615) :
    Calls Tryf.prog 46 #[.int .u64 x] w fun e w' => e = .returned (.int .i64 (Lib.bitLen x.toNat)) ∧ w' = w := Any.bits_Len64 Tryf.lays129 x w h0 h1
def Tryf.laysBin36_ren : Go.Shelf.Ren := ⟨fun | 36 => 26 | n => n, fun | 37 => 47 | 22 => 23 | 23 => 45 | 0 => 0 | 5 => 5 | 45 => 37 | n => n, fun | n => n⟩
theorem Tryf.laysBin36 : Go.Proofs.LaysBin.n36 Tryf.prog Tryf.laysBin36_ren := {
  mixed := by kernel_rfl
  f36 := Tryf.func26.trans (congrArg some (by kernel_rfl))
  t0 := Tryf.underlying0
  a0 := Tryf.isAgg0
  z0 := Tryf.sizeOf0
  v0 := Tryf.zeroValue0
  i0 := by kernel_rfl
  t5 := Tryf.underlying5
  a5 := Tryf.isAgg5
  z5 := Tryf.sizeOf5
  v5 := Tryf.zeroValue5
  i5 := by kernel_rfl
  t22 := Tryf.underlying23
  a22 := Tryf.isAgg23
  z22 := Tryf.sizeOf23
  v22 := Tryf.zeroValue23
  i22 := by kernel_rfl
  t23 := Tryf.underlying45
  a23 := Tryf.isAgg45
  z23 := Tryf.sizeOf45
  v23 := Tryf.zeroValue45
  i23 := by kernel_rfl
  t37 := Tryf.underlying47
  a37 := Tryf.isAgg47
  z37 := Tryf.sizeOf47
  v37 := Tryf.zeroValue47
  i37 := by kernel_rfl
  t45 := Tryf.underlying37
  a45 := Tryf.isAgg37
  z45 := Tryf.sizeOf37
  v45 := Tryf.zeroValue37
  i45 := by kernel_rfl }
open Go.RowKit in
/-- binary.BigEndian.Uint16: "Uint16 returns the uint16 representation of b[0:2].": THE NUMBER THAT THE FIRST 2 BYTES SPELL, the greatest byte first ('Lib.beNat'). Of what was there nothing has turned (the receiver, an empty struct, is laid in a new block without cells; the statement's order is drawn). (LAID: no walk: one application.) -/
theorem Tryf.binary_BE_Uint16 (g o n c : Nat) (b0 b1 : UInt8) (w : World) (hn : 2 ≤ n) (c0 : w.cell? ⟨g, o, none⟩ = some (.int .u8 b0.toNat)) (c1 : w.cell? ⟨g, o + 1, none⟩ = some (.int .u8 b1.toNat)) :
    Calls Tryf.prog 26 #[.agg #[], .slice (some ⟨g, o, none⟩) n c] w fun e w' => e = .returned (.int .u16 (Lib.beNat [b0, b1])) ∧ Below w.heap.size w w' := Any.binary_BE_Uint16 Tryf.laysBin36 g o n c b0 b1 w hn c0 c1
def Tryf.laysBin37_ren : Go.Shelf.Ren := ⟨fun | 37 => 31 | n => n, fun | 37 => 47 | 22 => 23 | 23 => 45 | 0 => 0 | 5 => 5 | 45 => 37 | n => n, fun | n => n⟩
theorem Tryf.laysBin37 : Go.Proofs.LaysBin.n37 Tryf.prog Tryf.laysBin37_ren := {
  mixed := by kernel_rfl
  f37 := Tryf.func31.trans (congrArg some (by kernel_rfl))
  t0 := Tryf.underlying0
  a0 := Tryf.isAgg0
  z0 := Tryf.sizeOf0
  v0 := Tryf.zeroValue0
  i0 := by kernel_rfl
  t5 := Tryf.underlying5
  a5 := Tryf.isAgg5
  z5 := Tryf.sizeOf5
  v5 := Tryf.zeroValue5
  i5 := by kernel_rfl
  t22 := Tryf.underlying23
  a22 := Tryf.isAgg23
  z22 := Tryf.sizeOf23
  v22 := Tryf.zeroValue23
  i22 := by kernel_rfl
  t23 := Tryf.underlying45
  a23 := Tryf.isAgg45
  z23 := Tryf.sizeOf45
  v23 := Tryf.zeroValue45
  i23 := by kernel_rfl
  t37 := Tryf.underlying47
  a37 := Tryf.isAgg47
  z37 := Tryf.sizeOf47
  v37 := Tryf.zeroValue47
  i37 := by kernel_rfl
  t45 := Tryf.underlying37
  a45 := Tryf.isAgg37
  z45 := Tryf.sizeOf37
  v45 := Tryf.zeroValue37
  i45 := by kernel_rfl }
open Go.RowKit in
/-- binary.BigEndian.PutUint16: "PutUint16 stores v into b[0:2].": v's 2 BYTES, the greatest first ('Lib.beBytes 2 v'), ARE LAID IN THE SLICE's FIRST 2 CELLS ('World.setCells'); nothing else turns (the receiver, an empty struct, is laid in a new block without cells). (LAID: no walk: one application.) -/
theorem Tryf.binary_BE_PutUint16 (g o n c v : Nat) (hv : v < 65536) (x0 x1 : Value) (w : World) (hn : 2 ≤ n) (c0 : w.cell? ⟨g, o, none⟩ = some x0) (c1 : w.cell? ⟨g, o + 1, none⟩ = some x1) (f0 : w.frozen? ⟨g, o, none⟩ = false) (f1 : w.frozen? ⟨g, o + 1, none⟩ = false) :
    Calls Tryf.prog 31 #[.agg #[], .slice (some ⟨g, o, none⟩) n c, .int .u16 v] w fun e w' => e = .returned (.tuple #[]) ∧ w' = (w.alloc (.cells #[] 47)).setCells g o (Lib.byteCells (Lib.beBytes 2 v)) := Any.binary_BE_PutUint16 Tryf.laysBin37 g o n c v hv x0 x1 w hn c0 c1 f0 f1
open Go.RowKit in
/-- binary.BigEndian.Uint16, ITS PREMISES 'open_ints'' CONCLUSION TO THE LETTER: a slice at WHATEVER address a, the numbers zs that its cells hold: THE NUMBER THAT THE FIRST 2 SPELL ('Lib.beZ'). (LAID: no walk: one application.) -/
theorem Tryf.binary_BE_Uint16_z (a : Addr) (n c : Nat) (zs : List Int) (w : World) (hn : 2 ≤ n) (hl : 2 ≤ zs.length) (hcell : ∀ i, i < zs.length → w.cell? (a.add i) = some (.int .u8 (zs.getD i 0))) (hw : ∀ z ∈ zs, (Lit.int .u8 z).wf = true) :
    Calls Tryf.prog 26 #[.agg #[], .slice (some a) n c] w fun e w' => e = .returned (.int .u16 (Lib.beZ (zs.take 2))) ∧ Below w.heap.size w w' := Any.binary_BE_Uint16_z Tryf.laysBin36 a n c zs w hn hl hcell hw
def Tryf.laysNm237_ren : Go.Shelf.Ren := ⟨fun | 37 => 36 | n => n, fun | 3 => 3 | 4 => 4 | n => n, fun | n => n⟩
theorem Tryf.laysNm237 : Go.Proofs.Lays2.n37 Tryf.prog Tryf.laysNm237_ren := {
  mixed := by kernel_rfl
  f37 := Tryf.func36.trans (congrArg some (by kernel_rfl))
  t3 := Tryf.underlying3
  a3 := Tryf.isAgg3
  z3 := Tryf.sizeOf3
  v3 := Tryf.zeroValue3
  t4 := Tryf.underlying4
  a4 := Tryf.isAgg4
  z4 := Tryf.sizeOf4
  v4 := Tryf.zeroValue4 }
open Go.RowKit Go.Lib in
/-- cmp.isNaN[int]: 'x != x': false. (LAID: no walk: one application.) -/
theorem Tryf.cmp_isNaN_int2 (x : Int) (w : World) :
    Calls Tryf.prog 36 #[.int .i64 x] w fun e w' => e = .returned (.bool false) ∧ w' = w := Any.cmp_isNaN_int2 Tryf.laysNm237 x w
end Go.Proofs
