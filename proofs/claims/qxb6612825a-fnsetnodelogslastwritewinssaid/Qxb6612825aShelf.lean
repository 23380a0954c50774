/-
  DERIVED: THE SHELF's CONTRACTS AT THIS DUMP, IN PLAIN WORDS (tools/lay-plain.mjs out of 'TryShelf.lean', which tools/lay-shelf.mjs wrote): THE SAME DECLARATIONS UNDER THE SAME NAMES: 'import', 'namespace', 'open', 'def', 'theorem' AND NOTHING ELSE: no command of the shelf's: FOR A HAND-IN. Each laying: the table of numbers ('.._ren') and one theorem, a field a fact of the dump's own or the kernel's comparison; each contract: ONE APPLICATION.
-/
import Derived.Ground.MnProg
import Derived.Shelf.Bin.BEPutUint16
import Derived.Shelf.Bin.BEUint64
import Derived.Shelf.Bin.ReadersZ
import Derived.Test.Qxb6612825aProg
namespace Go.Proofs
open Go.Shelf
def Try.laysBin37_ren : Go.Shelf.Ren := ⟨fun | 37 => 12 | n => n, fun | 37 => 36 | 22 => 38 | 23 => 41 | 0 => 0 | 5 => 5 | 45 => 27 | n => n, fun | n => n⟩
theorem Try.laysBin37 : Go.Proofs.LaysBin.n37 Try.prog Try.laysBin37_ren := {
  mixed := by kernel_rfl
  f37 := Try.func12.trans (congrArg some (by kernel_rfl))
  t0 := Try.underlying0
  a0 := Try.isAgg0
  z0 := Try.sizeOf0
  v0 := Try.zeroValue0
  i0 := by kernel_rfl
  t5 := Try.underlying5
  a5 := Try.isAgg5
  z5 := Try.sizeOf5
  v5 := Try.zeroValue5
  i5 := by kernel_rfl
  t22 := Try.underlying38
  a22 := Try.isAgg38
  z22 := Try.sizeOf38
  v22 := Try.zeroValue38
  i22 := by kernel_rfl
  t23 := Try.underlying41
  a23 := Try.isAgg41
  z23 := Try.sizeOf41
  v23 := Try.zeroValue41
  i23 := by kernel_rfl
  t37 := Try.underlying36
  a37 := Try.isAgg36
  z37 := Try.sizeOf36
  v37 := Try.zeroValue36
  i37 := by kernel_rfl
  t45 := Try.underlying27
  a45 := Try.isAgg27
  z45 := Try.sizeOf27
  v45 := Try.zeroValue27
  i45 := by kernel_rfl }
open Go.RowKit in
/-- binary.BigEndian.PutUint16: "PutUint16 stores v into b[0:2].": v's 2 BYTES, the greatest first ('Lib.beBytes 2 v'), ARE LAID IN THE SLICE's FIRST 2 CELLS ('World.setCells'); nothing else turns (the receiver, an empty struct, is laid in a new block without cells). (LAID: no walk: one application.) -/
theorem Try.binary_BE_PutUint16 (g o n c v : Nat) (hv : v < 65536) (x0 x1 : Value) (w : World) (hn : 2 ≤ n) (c0 : w.cell? ⟨g, o, none⟩ = some x0) (c1 : w.cell? ⟨g, o + 1, none⟩ = some x1) (f0 : w.frozen? ⟨g, o, none⟩ = false) (f1 : w.frozen? ⟨g, o + 1, none⟩ = false) :
    Calls Try.prog 12 #[.agg #[], .slice (some ⟨g, o, none⟩) n c, .int .u16 v] w fun e w' => e = .returned (.tuple #[]) ∧ w' = (w.alloc (.cells #[] 36)).setCells g o (Lib.byteCells (Lib.beBytes 2 v)) := Any.binary_BE_PutUint16 Try.laysBin37 g o n c v hv x0 x1 w hn c0 c1 f0 f1
def Try.laysBin42_ren : Go.Shelf.Ren := ⟨fun | 42 => 10 | n => n, fun | 37 => 36 | 22 => 38 | 33 => 24 | 0 => 0 | 5 => 5 | 45 => 27 | n => n, fun | n => n⟩
theorem Try.laysBin42 : Go.Proofs.LaysBin.n42 Try.prog Try.laysBin42_ren := {
  mixed := by kernel_rfl
  f42 := Try.func10.trans (congrArg some (by kernel_rfl))
  t0 := Try.underlying0
  a0 := Try.isAgg0
  z0 := Try.sizeOf0
  v0 := Try.zeroValue0
  i0 := by kernel_rfl
  t5 := Try.underlying5
  a5 := Try.isAgg5
  z5 := Try.sizeOf5
  v5 := Try.zeroValue5
  i5 := by kernel_rfl
  t22 := Try.underlying38
  a22 := Try.isAgg38
  z22 := Try.sizeOf38
  v22 := Try.zeroValue38
  i22 := by kernel_rfl
  t33 := Try.underlying24
  a33 := Try.isAgg24
  z33 := Try.sizeOf24
  v33 := Try.zeroValue24
  i33 := by kernel_rfl
  t37 := Try.underlying36
  a37 := Try.isAgg36
  z37 := Try.sizeOf36
  v37 := Try.zeroValue36
  i37 := by kernel_rfl
  t45 := Try.underlying27
  a45 := Try.isAgg27
  z45 := Try.sizeOf27
  v45 := Try.zeroValue27
  i45 := by kernel_rfl }
open Go.RowKit in
/-- binary.BigEndian.Uint64: "Uint64 returns the uint64 representation of b[0:8].": THE NUMBER THAT THE FIRST 8 BYTES SPELL, the greatest byte first ('Lib.beNat'). Of what was there nothing has turned (the receiver, an empty struct, is laid in a new block without cells; the statement's order is drawn). (LAID: no walk: one application.) -/
theorem Try.binary_BE_Uint64 (g o n c : Nat) (b0 b1 b2 b3 b4 b5 b6 b7 : UInt8) (w : World) (hn : 8 ≤ n) (c0 : w.cell? ⟨g, o, none⟩ = some (.int .u8 b0.toNat)) (c1 : w.cell? ⟨g, o + 1, none⟩ = some (.int .u8 b1.toNat)) (c2 : w.cell? ⟨g, o + 2, none⟩ = some (.int .u8 b2.toNat)) (c3 : w.cell? ⟨g, o + 3, none⟩ = some (.int .u8 b3.toNat)) (c4 : w.cell? ⟨g, o + 4, none⟩ = some (.int .u8 b4.toNat)) (c5 : w.cell? ⟨g, o + 5, none⟩ = some (.int .u8 b5.toNat)) (c6 : w.cell? ⟨g, o + 6, none⟩ = some (.int .u8 b6.toNat)) (c7 : w.cell? ⟨g, o + 7, none⟩ = some (.int .u8 b7.toNat)) :
    Calls Try.prog 10 #[.agg #[], .slice (some ⟨g, o, none⟩) n c] w fun e w' => e = .returned (.int .u64 (Lib.beNat [b0, b1, b2, b3, b4, b5, b6, b7])) ∧ Below w.heap.size w w' := Any.binary_BE_Uint64 Try.laysBin42 g o n c b0 b1 b2 b3 b4 b5 b6 b7 w hn c0 c1 c2 c3 c4 c5 c6 c7
open Go.RowKit in
/-- binary.BigEndian.Uint64, ITS PREMISES 'open_ints'' CONCLUSION TO THE LETTER: a slice at WHATEVER address a, the numbers zs that its cells hold: THE NUMBER THAT THE FIRST 8 SPELL ('Lib.beZ'). (LAID: no walk: one application.) -/
theorem Try.binary_BE_Uint64_z (a : Addr) (n c : Nat) (zs : List Int) (w : World) (hn : 8 ≤ n) (hl : 8 ≤ zs.length) (hcell : ∀ i, i < zs.length → w.cell? (a.add i) = some (.int .u8 (zs.getD i 0))) (hw : ∀ z ∈ zs, (Lit.int .u8 z).wf = true) :
    Calls Try.prog 10 #[.agg #[], .slice (some a) n c] w fun e w' => e = .returned (.int .u64 (Lib.beZ (zs.take 8))) ∧ Below w.heap.size w w' := Any.binary_BE_Uint64_z Try.laysBin42 a n c zs w hn hl hcell hw
end Go.Proofs
