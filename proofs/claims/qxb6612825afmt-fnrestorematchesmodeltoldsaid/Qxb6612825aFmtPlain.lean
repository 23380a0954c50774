/-
  A DATA BLOCK AS 8192 NUMBERS: ITS FIELDS. No Go function in sight.
-/
import Derived.Test.Qxb6612825aFmtBig
namespace Go.Proofs.Qxb6612825aFmt
open Go.RowKit Go.Proofs.Qxb6612825aFmt.Big

/-- The byte at i. -/
def byteAt (zs : List Int) (i : Nat) : Nat := (zs.getD i 0).toNat
/-- Two bytes, the greater first. -/
def u16 (zs : List Int) (i : Nat) : Nat := byteAt zs i * 256 + byteAt zs (i + 1)
/-- Where the directory starts. -/
def dirS (zs : List Int) : Nat := 52 + 24 * u16 zs 20
def nRows (zs : List Int) : Nat := u16 zs 16
def rowSp (zs : List Int) : Nat := u16 zs 18
/-- Where slot i's entry lies. -/
def ent (zs : List Int) (i : Nat) : Nat := dirS zs + 4 * i
def offOf (zs : List Int) (i : Nat) : Nat := u16 zs (ent zs i)
def rawOf (zs : List Int) (i : Nat) : Nat := u16 zs (ent zs i + 2)
def lenOf (zs : List Int) (i : Nat) : Nat := rawOf zs i % 32768

/-- All are bytes, 8192 of them. -/
structure IsBlk (zs : List Int) : Prop where
  len : zs.length = 8192
  wf : ∀ z ∈ zs, (Lit.int .u8 z).wf = true

theorem byte_bounds {z : Int} (h : (Lit.int .u8 z).wf = true) : 0 ≤ z ∧ z ≤ 255 := by
  simpa [Lit.wf, IntKind.has, IntKind.min, IntKind.max, IntKind.bits, IntKind.signed] using h
theorem wf_byte {z : Int} (h0 : 0 ≤ z) (h1 : z ≤ 255) : (Lit.int .u8 z).wf = true := by
  simp [Lit.wf, IntKind.min, IntKind.max, IntKind.bits, IntKind.signed]
  omega
theorem wf_getD {zs : List Int} (h : ∀ z ∈ zs, (Lit.int .u8 z).wf = true) (i : Nat) : (Lit.int .u8 (zs.getD i 0)).wf = true := by
  by_cases hi : i < zs.length
  · have e : zs.getD i 0 = zs[i] := by simp [hi]
    rw [e]; exact h _ (List.getElem_mem hi)
  · have e : zs.getD i 0 = 0 := by simp; rw [List.getElem?_eq_none (by omega)]; rfl
    rw [e]; decide
theorem IsBlk.bounds {zs : List Int} (h : IsBlk zs) (i : Nat) : 0 ≤ zs.getD i 0 ∧ zs.getD i 0 ≤ 255 := byte_bounds (wf_getD h.wf i)
theorem IsBlk.cast {zs : List Int} (h : IsBlk zs) (i : Nat) : (byteAt zs i : Int) = zs.getD i 0 := by
  have := h.bounds i
  unfold byteAt
  omega
theorem IsBlk.lt {zs : List Int} (h : IsBlk zs) (i : Nat) : byteAt zs i < 256 := by
  have := h.bounds i
  unfold byteAt
  omega
theorem IsBlk.u16_lt {zs : List Int} (h : IsBlk zs) (i : Nat) : u16 zs i < 65536 := by
  have := h.lt i
  have := h.lt (i + 1)
  unfold u16
  omega
end Go.Proofs.Qxb6612825aFmt
