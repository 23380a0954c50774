/-
  THE PLAIN LAWS: eight bytes as a number. No Go function in sight.
-/
import Derived.Test.Qxb6612825aScn
import Derived.Lib.EndianBits
namespace Go.Proofs.Qxb6612825a
open Go.RowKit Go.Proofs.Qxb6612825a.Big

theorem byte_bounds {z : Int} (h : (Lit.int .u8 z).wf = true) : 0 ≤ z ∧ z ≤ 255 := by
  simpa [Lit.wf, IntKind.has, IntKind.min, IntKind.max, IntKind.bits, IntKind.signed] using h

/-- The number that eight bytes spell, written out. -/
def num8 (f : Nat → Int) : Int := (((((((f 0 * 256 + f 1) * 256 + f 2) * 256 + f 3) * 256 + f 4) * 256 + f 5) * 256 + f 6) * 256) + f 7

theorem take8 (l : List Int) (h : 8 ≤ l.length) : l.take 8 = [l.getD 0 0, l.getD 1 0, l.getD 2 0, l.getD 3 0, l.getD 4 0, l.getD 5 0, l.getD 6 0, l.getD 7 0] := by
  match l, h with
  | _ :: _ :: _ :: _ :: _ :: _ :: _ :: _ :: _, _ => simp

theorem scn_num (zs : List Int) (h : zs.length = 8192) : scnOf zs = num8 fun i => zs.getD (40 + i) 0 := by
  unfold scnOf
  rw [take8 _ (by simp; omega)]
  simp [Lib.beZ, Lib.beFromZ, num8]

theorem or_low (x v : Int) (hx0 : 0 ≤ x) (hx1 : x < 18446744073709551616) (hx : x % 256 = 0) (h0 : 0 ≤ v) (h1 : v ≤ 255) : bits .or .u64 x v = x + v := by
  have hc : bits .or .u64 x v = bits .or .u64 v x := by simp only [bits, BitVec.or_comm]
  rw [hc, u64_or8 v x h0 (by omega) hx0 hx hx1]
  omega

theorem shift_num (f : Nat → Int) (v : Int) (hf : ∀ i, 0 ≤ f i ∧ f i ≤ 255) (hv : 0 ≤ v ∧ v ≤ 255) :
    (num8 fun i => if i < 7 then f (i + 1) else v) = bits .or .u64 (IntKind.u64.wrap (num8 f * 256)) (IntKind.u64.wrap v) := by
  have h0 := hf 0; have h1 := hf 1; have h2 := hf 2; have h3 := hf 3; have h4 := hf 4; have h5 := hf 5; have h6 := hf 6; have h7 := hf 7
  have hw : IntKind.u64.wrap v = v := by rw [IntKind.wrap_u64]; omega
  rw [hw, IntKind.wrap_u64]
  have e : num8 f * 256 % 18446744073709551616 = (((((((f 1 * 256 + f 2) * 256 + f 3) * 256 + f 4) * 256 + f 5) * 256 + f 6) * 256) + f 7) * 256 := by
    unfold num8; omega
  rw [e, or_low _ _ (by omega) (by omega) (by omega) hv.1 hv.2]
  simp [num8]
end Go.Proofs.Qxb6612825a
