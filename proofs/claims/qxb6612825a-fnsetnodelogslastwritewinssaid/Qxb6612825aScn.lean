/-
  (*Block).SCN: the number that the header's bytes 40 to 47 spell.
-/
import Derived.Test.Qxb6612825aRows
import Derived.Test.Qxb6612825aBig
import Derived.Test.Qxb6612825aShelf
import Derived.WalkSpells
import Derived.WalkLawsBesides
import Derived.Deep.RegionWith
import Derived.RegionTactic
namespace Go.Proofs.Qxb6612825a
open Go.RowKit Go.Proofs.Qxb6612825a.Big
set_option linter.unusedVariables false

/-- The block's SCN. -/
def scnOf (zs : List Int) : Int := Lib.beZ ((zs.drop 40).take 8)

theorem cell_at {w : World} {g : Nat} {zs : List Int} {t : TypeId} (hg : w.heap[g]? = some (.cells (cellsOf zs) t (0, 0))) (i : Nat) (hi : i < zs.length) : w.cell? ⟨g, i, none⟩ = some (.int .u8 (zs.getD i 0)) := by
  rw [cell_of_row w g i _ t (0, 0) hg]
  simp [cellsOf, hi]

set_option maxHeartbeats 400000 in
theorem scn7 (g : Nat) (zs : List Int) (t : TypeId) (w : World) (hz : zs.length = 8192) (hw : ∀ z ∈ zs, (Lit.int .u8 z).wf = true) (hg : w.heap[g]? = some (.cells (cellsOf zs) t (0, 0))) :
    Calls Try.prog 7 #[.pointer (some ⟨g, 0, none⟩)] w fun e w' => e = .returned (.int .u64 (scnOf zs)) ∧ Below w.heap.size w w' := by
  have hC : ∀ W : World, W.heap = w.heap → Calls Try.prog 10 #[.agg #[], .slice (some ⟨g, 40, none⟩) 8152 8152] W fun e w' => e = .returned (.int .u64 (scnOf zs)) ∧ Below W.heap.size W w' := by
    intro W hW
    refine Try.binary_BE_Uint64_z ⟨g, 40, none⟩ 8152 8152 (zs.drop 40) W (by omega) (by simp; omega) (fun i hi => ?_) (fun z hz => hw z (List.mem_of_mem_drop hz))
    have hi' : 40 + i < zs.length := by simp at hi; omega
    rw [Go.WideShapes.add_plain, cell_at (by rw [hW]; exact hg) (40 + i) hi']
    simp
  clear hg hw
  go_enter Try.func7, Try.ntmps7
  go_wp2
  go_region_with (go_at_call 10; refine (hC _ (by rfl)).mono ?_; rintro e w' ⟨rfl, hb⟩)
  all_goals
    go_wp2
    go_ret
    exact ⟨rfl, (Below.refl _ _).drew.trans hb⟩
end Go.Proofs.Qxb6612825a
