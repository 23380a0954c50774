/-
  FnRestoreOrderFree, WALKED: joined.
-/
import Derived.Test.Qxb6612825aFmtFreeEarly
import Derived.Test.Qxb6612825aFmtFreeA
import Derived.Test.Qxb6612825aFmtFreeB
import Derived.Test.Qxb6612825aFmtFreeC
import Derived.Test.Qxb6612825aFmtFreeD
import Derived.Test.Qxb6612825aFmtFreeE
import Derived.Test.Qxb6612825aFmtFreeF
namespace Go.Proofs.Qxb6612825aFmt
open Go.RowKit Go.Proofs.Qxb6612825aFmt.Big
set_option linter.unusedVariables false

theorem order4 (zs : List Int) (s t : Int) (ra rb : Option Addr) (cap cap' : Nat) (r1 r2 : List Int) (w : World) (hB : IsBlk zs) (G1 : Given w ra r1) (G2 : Given w rb r2) :
    Calls Tryf.prog 4 #[.agg (cellsOf zs), .int .i64 s, .slice ra r1.length cap, .int .i64 t, .slice rb r2.length cap'] w fun e w' => e = .returned (.bool true) ∧ Below w.heap.size w w' := by
  by_cases h : Road zs s t r1.length r2.length
  · obtain ⟨hL, hM, hs0, hs1, ht0, ht1, hst, V, h0, h1⟩ := h
    obtain ⟨a, rfl⟩ : ∃ a : Nat, s = (a : Int) := ⟨s.toNat, by omega⟩
    obtain ⟨b, rfl⟩ : ∃ b : Nat, t = (b : Int) := ⟨t.toNat, by omega⟩
    have hs : a ≤ 65536 := by omega
    have ht : b ≤ 65536 := by omega
    have hab : a ≠ b := by omega
    have h0' : NoRow zs a := h0
    have h1' : NoRow zs b := h1
    by_cases hsn : a < nRows zs
    · by_cases htn : b < nRows zs
      · by_cases hlt : a < b
        · exact order4A zs a b ra rb cap cap' r1 r2 w hB V hs ht hab h0' h1' hL hM G1 G2 hsn htn hlt
        · exact order4B zs a b ra rb cap cap' r1 r2 w hB V hs ht hab h0' h1' hL hM G1 G2 hsn htn (by omega)
      · exact order4C zs a b ra rb cap cap' r1 r2 w hB V hs ht hab h0' h1' hL hM G1 G2 hsn htn (by omega)
    · by_cases htn : b < nRows zs
      · exact order4D zs a b ra rb cap cap' r1 r2 w hB V hs ht hab h0' h1' hL hM G1 G2 hsn htn (by omega)
      · by_cases hlt : a < b
        · exact order4E zs a b ra rb cap cap' r1 r2 w hB V hs ht hab h0' h1' hL hM G1 G2 hsn htn hlt
        · exact order4F zs a b ra rb cap cap' r1 r2 w hB V hs ht hab h0' h1' hL hM G1 G2 hsn htn (by omega)
  · exact order4Z zs s t ra rb cap cap' r1.length r2.length w hB h
end Go.Proofs.Qxb6612825aFmt
