/-
  THE WALK OF FnSCNShiftInLowByte.
-/
import Derived.Test.Qxb6612825aPlain
namespace Go.Proofs.Qxb6612825a
open Go.RowKit Go.Proofs.Qxb6612825a.Big
set_option linter.unusedVariables false

theorem info22 : (Try.prog.info? 22).map (·.size) = some 8192 := by kernel_rfl
set_option maxRecDepth 1000000 in
theorem made22 : (Try.prog.info? 22).map (fun i => (i.zero.map fun v => v.cells.size, i.size)) = some (some 8192, 8192) := by kernel_rfl
set_option maxRecDepth 1000000 in
theorem made23 : (Try.prog.info? 23).map (fun i => (i.zero.map fun v => v.cells.size, i.size)) = some (some 8192, 8192) := by kernel_rfl

theorem set_cellsOf (zs : List Int) (i : Nat) (z : Int) : (cellsOf zs).setIfInBounds i (.int .u8 z) = cellsOf (zs.set i z) := by
  apply Array.ext'
  simp [cellsOf, List.map_set]

/-- The bytes 40 .. 40 + k - 1 taken from one place further on. -/
def shl (zs : List Int) : Nat → List Int
  | 0 => zs
  | k + 1 => (shl zs k).set (40 + k) (zs.getD (41 + k) 0)
theorem shl_length (zs : List Int) (k : Nat) : (shl zs k).length = zs.length := by
  induction k with
  | zero => rfl
  | succ k ih => simp [shl, ih]

theorem wf_set {zs : List Int} (h : ∀ z ∈ zs, (Lit.int .u8 z).wf = true) {v : Int} (hv : (Lit.int .u8 v).wf = true) {i : Nat} : ∀ z ∈ zs.set i v, (Lit.int .u8 z).wf = true := by
  intro z hz
  rcases List.mem_or_eq_of_mem_set hz with h' | rfl
  · exact h z h'
  · exact hv
theorem wf_getD {zs : List Int} (h : ∀ z ∈ zs, (Lit.int .u8 z).wf = true) (i : Nat) : (Lit.int .u8 (zs.getD i 0)).wf = true := by
  by_cases hi : i < zs.length
  · have e : zs.getD i 0 = zs[i] := by simp [hi]
    rw [e]; exact h _ (List.getElem_mem hi)
  · have e : zs.getD i 0 = 0 := by simp; rw [List.getElem?_eq_none (by omega)]; rfl
    rw [e]; decide
theorem shl_wf {zs : List Int} (h : ∀ z ∈ zs, (Lit.int .u8 z).wf = true) (k : Nat) : ∀ z ∈ shl zs k, (Lit.int .u8 z).wf = true := by
  induction k with
  | zero => exact h
  | succ k ih => exact wf_set ih (wf_getD h _)

theorem shl_get (zs : List Int) (h : zs.length = 8192) (v : Int) : ∀ i, i < 8 → ((shl zs 7).set 47 v).getD (40 + i) 0 = if i < 7 then zs.getD (40 + (i + 1)) 0 else v := by
  intro i hi
  have : i = 0 ∨ i = 1 ∨ i = 2 ∨ i = 3 ∨ i = 4 ∨ i = 5 ∨ i = 6 ∨ i = 7 := by omega
  rcases this with rfl | rfl | rfl | rfl | rfl | rfl | rfl | rfl <;> simp [shl, h]
theorem shl_scn (zs : List Int) (h : zs.length = 8192) (hw : ∀ z ∈ zs, (Lit.int .u8 z).wf = true) (v : Int) (hv : (Lit.int .u8 v).wf = true) :
    (scnOf ((shl zs 7).set 47 v) == bits BinOp.or IntKind.u64 (IntKind.u64.wrap (scnOf zs * 256)) (IntKind.u64.wrap v)) = true := by
  rw [scn_num zs h, scn_num _ (by rw [List.length_set, shl_length, h]), ← shift_num (fun i => zs.getD (40 + i) 0) v (fun i => byte_bounds (wf_getD hw _)) (byte_bounds hv)]
  have g := shl_get zs h v
  simp only [num8, g 0 (by omega), g 1 (by omega), g 2 (by omega), g 3 (by omega), g 4 (by omega), g 5 (by omega), g 6 (by omega), g 7 (by omega), beq_self_eq_true]

set_option maxHeartbeats 1000000 in
theorem shift_walk (zs : List Int) (v : Int) (w : World) (hz : zs.length = 8192) (hw : ∀ z ∈ zs, (Lit.int .u8 z).wf = true) (hv : (Lit.int .u8 v).wf = true) :
    Calls Try.prog 3 #[.agg (cellsOf zs), .int .u8 v] w fun e w' => e = .returned (.bool true) ∧ Below w.heap.size w w' := by
  go_enter Try.func3, Try.ntmps3
  go_wp2_with (first | (refine at_op (.load 22 (.tmp 2)) rfl ?_; refine wpList_load rfl 22 (.tmp 2) rfl Try.underlying22 info22 w.heap.size rfl zs hz 22 (heap_alloc_new _ _) ?_) | (refine at_ops (.alloc 22) (.store 22 (.tmp 5) (.tmp 9)) rfl rfl ?_; refine wpList_new rfl rfl 22 rfl (.tmp 5) (.tmp 9) rfl made22 zs hz rfl rfl ?_))
  generalize hW : (w.alloc _).alloc _ = W
  have g0 : W.heap[w.heap.size]? = some (.cells (cellsOf zs) 22 (0, 0)) := by rw [← hW]; exact heap_alloc2_old _ _ _
  have g1 : W.heap[w.heap.size + 1]? = some (.cells (cellsOf zs) 22 (0, 0)) := by rw [← hW]; exact heap_alloc2_new _ _ _
  have BW : Below w.heap.size w W := by rw [← hW]; exact ((Below.refl _ _).alloc (Nat.le_refl _) _).alloc (by simp) _
  clear hW
  go_loopw [6] (fun i wr => ∃ k : Nat, k ≤ 7 ∧ i = .int .i64 ((40 + k : Nat) : Int) ∧ wr.heap[w.heap.size]? = some (.cells (cellsOf zs) 22 (0, 0)) ∧ wr.heap[w.heap.size + 1]? = some (.cells (cellsOf (shl zs k)) 22 (0, 0)) ∧ Below w.heap.size w wr) (fun i _ => 47 - (intOf i).toNat)
  case atStart => exact ⟨0, by omega, rfl, g0, g1, BW⟩
  case round =>
    clear g0 g1 BW
    obtain ⟨k, hk, rfl, g0, g1, BW⟩ := hrel
    have hsz : w.heap.size + 1 < wr.heap.size := lt_of_block g1
    by_cases hlt : k < 7
    · have c0 := cell_at g0 (40 + k + 1) (by omega)
      have c1 := cell_at g1 (40 + k) (by rw [shl_length]; omega)
      have f1 := frozen_of_row wr (w.heap.size + 1) (40 + k) _ _ g1
      have n0 : (wr.setCell ⟨w.heap.size + 1, 40 + k, none⟩ (.int .u8 (zs.getD (41 + k) 0))).heap[w.heap.size]? = some (.cells (cellsOf zs) 22 (0, 0)) := by
        rw [heap_setCell_other _ _ _ _ (by simp)]; exact g0
      have n1 : (wr.setCell ⟨w.heap.size + 1, 40 + k, none⟩ (.int .u8 (zs.getD (41 + k) 0))).heap[w.heap.size + 1]? = some (.cells (cellsOf (shl zs (k + 1))) 22 (0, 0)) := by
        rw [heap_setCell_same _ _ _ _ _ _ g1, set_cellsOf]; rfl
      have nB := BW.setCell (p := ⟨w.heap.size + 1, 40 + k, none⟩) (by simp) (.int .u8 (zs.getD (41 + k) 0))
      have e1 : 40 + k + 1 = 41 + k := by omega
      rw [e1] at c0
      clear g0 g1 BW
      go_wp2
      go_roundw
      case rel => exact ⟨k + 1, by omega, by go_num, n0, n1, nB⟩
      case measure => simp [intOf]; omega
    · obtain rfl : k = 7 := by omega
      have c1 := cell_at g1 47 (by rw [shl_length]; omega)
      have f1 := frozen_of_row wr (w.heap.size + 1) 47 _ _ g1
      have n0 : (wr.setCell ⟨w.heap.size + 1, 47, none⟩ (.int .u8 v)).heap[w.heap.size]? = some (.cells (cellsOf zs) 22 (0, 0)) := by
        rw [heap_setCell_other _ _ _ _ (by simp)]; exact g0
      have n1 : (wr.setCell ⟨w.heap.size + 1, 47, none⟩ (.int .u8 v)).heap[w.heap.size + 1]? = some (.cells (cellsOf ((shl zs 7).set 47 v)) 22 (0, 0)) := by
        rw [heap_setCell_same _ _ _ _ _ _ g1, set_cellsOf]
      have nB := BW.setCell (p := ⟨w.heap.size + 1, 47, none⟩) (by simp) (.int .u8 v)
      have nZ : (wr.setCell ⟨w.heap.size + 1, 47, none⟩ (.int .u8 v)).heap.size = wr.heap.size := by simp
      clear g0 g1 BW
      have hl2 : ((shl zs 7).set 47 v).length = 8192 := by rw [List.length_set, shl_length, hz]
      have n1' := fun o => (Below.heap_alloc (wr.setCell ⟨w.heap.size + 1, 47, none⟩ (.int .u8 v)) o (w.heap.size + 1) (by rw [nZ]; omega)).trans n1
      go_wp2_with (first | (refine at_op (.load 22 (.tmp 2)) rfl ?_; refine wpList_load rfl 22 (.tmp 2) rfl Try.underlying22 info22 w.heap.size rfl zs hz 22 n0 ?_) | (refine at_ops (.alloc 23) (.store 23 (.tmp 7) (.tmp 22)) rfl rfl ?_; refine wpList_new rfl rfl 23 rfl (.tmp 7) (.tmp 22) rfl made23 zs hz rfl rfl ?_) | (refine at_op (.load 22 (.tmp 5)) rfl ?_; refine wpList_load rfl 22 (.tmp 5) rfl Try.underlying22 info22 (w.heap.size + 1) rfl _ hl2 22 (n1' _) ?_) | (refine at_ops (.alloc 23) (.store 23 (.tmp 8) (.tmp 23)) rfl rfl ?_; refine wpList_new rfl rfl 23 rfl (.tmp 8) (.tmp 23) rfl made23 _ hl2 rfl rfl ?_) | fail)
      have hw2 : ∀ z ∈ (shl zs 7).set 47 v, (Lit.int .u8 z).wf = true := wf_set (shl_wf hw 7) hv
      generalize hW : ((wr.setCell _ _).alloc _).alloc _ = W2
      have B2 : Below w.heap.size w W2 := by rw [← hW]; exact (nB.alloc (by rw [nZ]; omega) _).alloc (by simp; omega) _
      have k0 : W2.heap[wr.heap.size]? = some (.cells (cellsOf zs) 23 (0, 0)) := by rw [← hW, ← nZ]; exact heap_alloc2_old _ _ _
      have k1 : W2.heap[wr.heap.size + 1]? = some (.cells (cellsOf ((shl zs 7).set 47 v)) 23 (0, 0)) := by rw [← hW, ← nZ]; exact heap_alloc2_new _ _ _
      clear hW n0 n1 nB nZ n1' c1 f1
      refine (scn7 _ _ _ _ hl2 hw2 k1).mono ?_
      rintro e w3 ⟨rfl, B3⟩
      go_wp2_with fail
      refine (scn7 _ zs _ _ hz hw ((B3.block _ (lt_of_block k0)).trans k0)).mono ?_
      rintro e w4 ⟨rfl, B4⟩
      have HS := shl_scn zs hz hw v hv
      go_wp2
      go_ret
      exact ⟨rfl, (B2.trans (B3.mono B2.size)).trans (B4.mono (Nat.le_trans B2.size B3.size))⟩
end Go.Proofs.Qxb6612825a
