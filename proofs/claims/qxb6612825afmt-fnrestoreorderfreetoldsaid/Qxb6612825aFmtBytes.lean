/-
  zzBytes of both laws, WALKED; what the main walks want of arrays by value.
-/
import Derived.Test.Qxb6612825aFmtLaid
import Derived.Test.Qxb6612825aFmtValidWalk
namespace Go.Proofs.Qxb6612825aFmt
open Go.RowKit Go.Proofs.Qxb6612825aFmt.Big
set_option linter.unusedVariables false

theorem info22 : (Tryf.prog.info? 22).map (·.size) = some 8192 := by kernel_rfl
theorem info30 : (Tryf.prog.info? 30).map (·.size) = some 8192 := by kernel_rfl
theorem made22 : (Tryf.prog.info? 22).map (fun i => (i.zero.map fun v => v.cells.size, i.size)) = some (some 8192, 8192) := by kernel_rfl
theorem made30 : (Tryf.prog.info? 30).map (fun i => (i.zero.map fun v => v.cells.size, i.size)) = some (some 8192, 8192) := by kernel_rfl

theorem ret_bool {a b : Bool} (h : a = b) : Ending.returned (.bool a) = .returned (.bool b) := by rw [h]

/-- zzBytes of FnRestoreMatchesModel -/
theorem bytes5 (zs : List Int) (s : Int) (ra : Option Addr) (L cap : Nat) (w : World) :
    Calls Tryf.prog 5 #[.agg (cellsOf zs), .int .i64 s, .slice ra L cap] w fun e w' => e = .returned (.bool (decide (L ≤ 1048576))) ∧ Below w.heap.size w w' := by
  by_cases h : L ≤ 1048576
  · rw [decide_eq_true h]
    have h1 : (L : Int) ≤ 1048576 := by omega
    go_enter Tryf.func5, Tryf.ntmps5
    go_wp2
    go_ret
    exact ⟨rfl, (Below.refl _ _).alloc (Nat.le_refl _) _⟩
  · rw [decide_eq_false h]
    have h1 : (1048576 : Int) < (L : Int) := by omega
    go_enter Tryf.func5, Tryf.ntmps5
    go_wp2
    go_ret
    exact ⟨rfl, (Below.refl _ _).alloc (Nat.le_refl _) _⟩

/-- zzBytes of FnRestoreOrderFree -/
theorem bytes16 (zs : List Int) (s t : Int) (ra rb : Option Addr) (L M cap cap' : Nat) (w : World) :
    Calls Tryf.prog 16 #[.agg (cellsOf zs), .int .i64 s, .slice ra L cap, .int .i64 t, .slice rb M cap'] w fun e w' => e = .returned (.bool (decide (L + M ≤ 1048576))) ∧ Below w.heap.size w w' := by
  by_cases h : L ≤ 1048576
  · have h1 : (L : Int) ≤ 1048576 := by omega
    by_cases k : M ≤ 1048576
    · have k1 : (M : Int) ≤ 1048576 := by omega
      by_cases m : L + M ≤ 1048576
      · have m1 : (L : Int) + (M : Int) ≤ 1048576 := by omega
        go_enter Tryf.func16, Tryf.ntmps16
        go_wp2
        go_ret
        exact ⟨ret_bool (decide_eq_true m).symm, (Below.refl _ _).alloc (Nat.le_refl _) _⟩
      · have m1 : (1048576 : Int) < (L : Int) + (M : Int) := by omega
        go_enter Tryf.func16, Tryf.ntmps16
        go_wp2
        go_ret
        exact ⟨ret_bool (decide_eq_false (by omega)).symm, (Below.refl _ _).alloc (Nat.le_refl _) _⟩
    · have k1 : (1048576 : Int) < (M : Int) := by omega
      go_enter Tryf.func16, Tryf.ntmps16
      go_wp2
      go_ret
      exact ⟨ret_bool (decide_eq_false (by omega)).symm, (Below.refl _ _).alloc (Nat.le_refl _) _⟩
  · have h1 : (1048576 : Int) < (L : Int) := by omega
    go_enter Tryf.func16, Tryf.ntmps16
    go_wp2
    go_ret
    exact ⟨ret_bool (decide_eq_false (by omega)).symm, (Below.refl _ _).alloc (Nat.le_refl _) _⟩
end Go.Proofs.Qxb6612825aFmt
