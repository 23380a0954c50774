/-
  slices.SortFunc of no element: nothing turns.
-/
import Derived.Test.Qxb6612825aFmtBase2
namespace Go.Proofs.Qxb6612825aFmt
open Go.RowKit Go.Proofs.Qxb6612825aFmt.Big
set_option linter.unusedVariables false

set_option maxHeartbeats 1000000 in
theorem insertion37 (fv : Value) (w : World) : Calls Tryf.prog 37 #[.slice none 0 0, .int .i64 0, .int .i64 0, fv] w fun e w' => e = .returned (.tuple #[]) ∧ w' = w := by
  go_enter Tryf.func37, Tryf.ntmps37
  go_wp2
  refine wp_loop_rounds 1 ?_
  rw [rounds_succ]
  go_wp2
  go_end0
  exact ⟨rfl, rfl⟩
set_option maxHeartbeats 1000000 in
theorem pdq34 (lim : Int) (fv : Value) (w : World) : Calls Tryf.prog 34 #[.slice none 0 0, .int .i64 0, .int .i64 0, .int .i64 lim, fv] w fun e w' => e = .returned (.tuple #[]) ∧ w' = w := by
  go_enter Tryf.func34, Tryf.ntmps34
  go_wp2
  refine wp_loop_rounds 1 ?_
  rw [rounds_succ]
  go_wp2_with (go_at_call 37; refine (insertion37 _ _).mono ?_; rintro e w' ⟨rfl, rfl⟩)
  (try simp only [Exit.inBlock, Exit.then])
  refine bodyPost_ret (results_none rfl _ _ _) rfl ?_
  exact ⟨rfl, rfl⟩
set_option maxHeartbeats 1000000 in
theorem none28 (fv : Value) (w : World) : Calls Tryf.prog 28 #[.slice none 0 0, fv] w fun e w' => e = .returned (.tuple #[]) ∧ w' = w := by
  have hl : ∀ W, Calls Tryf.prog 35 #[.int .u64 0] W fun e w' => (∃ n : Int, e = .returned (.int .i64 n)) ∧ w' = W := fun W =>
    (Tryf.bits_Len 0 W (by omega) (by omega)).mono fun e w' h => ⟨⟨_, h.1⟩, h.2⟩
  go_enter Tryf.func28, Tryf.ntmps28
  go_wp2_with (first | (go_at_call 35; refine (hl _).mono ?_; rintro e w' ⟨⟨n, rfl⟩, rfl⟩) | (go_at_call 34; refine (pdq34 _ _ _).mono ?_; rintro e w' ⟨rfl, rfl⟩))
  go_end0
  exact ⟨rfl, rfl⟩
end Go.Proofs.Qxb6612825aFmt
