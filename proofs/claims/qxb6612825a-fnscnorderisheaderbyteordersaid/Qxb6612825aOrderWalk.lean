/-
  THE WALK OF FnSCNOrderIsHeaderByteOrder.
-/
import Derived.Test.Qxb6612825aShiftWalk
import Derived.Deep.QuietTactic
import Derived.BigQuiet
import Derived.WalkSmall
namespace Go.Proofs.Qxb6612825a
open Go.RowKit Go.Proofs.Qxb6612825a.Big
set_option linter.unusedVariables false

theorem num_lt (f g : Nat → Int) (hf : ∀ i, 0 ≤ f i ∧ f i ≤ 255) (hg : ∀ i, 0 ≤ g i ∧ g i ≤ 255) (k : Nat) (hk : k < 8) (he : ∀ t, t < k → f t = g t) (hl : f k < g k) : num8 f < num8 g := by
  have a0 := hf 0; have a1 := hf 1; have a2 := hf 2; have a3 := hf 3; have a4 := hf 4; have a5 := hf 5; have a6 := hf 6; have a7 := hf 7
  have b0 := hg 0; have b1 := hg 1; have b2 := hg 2; have b3 := hg 3; have b4 := hg 4; have b5 := hg 5; have b6 := hg 6; have b7 := hg 7
  have e0 := he 0; have e1 := he 1; have e2 := he 2; have e3 := he 3; have e4 := he 4; have e5 := he 5; have e6 := he 6
  have : k = 0 ∨ k = 1 ∨ k = 2 ∨ k = 3 ∨ k = 4 ∨ k = 5 ∨ k = 6 ∨ k = 7 := by omega
  unfold num8
  rcases this with rfl | rfl | rfl | rfl | rfl | rfl | rfl | rfl
  · omega
  · have := e0 (by omega); omega
  · have := e0 (by omega); have := e1 (by omega); omega
  · have := e0 (by omega); have := e1 (by omega); have := e2 (by omega); omega
  · have := e0 (by omega); have := e1 (by omega); have := e2 (by omega); have := e3 (by omega); omega
  · have := e0 (by omega); have := e1 (by omega); have := e2 (by omega); have := e3 (by omega); have := e4 (by omega); omega
  · have := e0 (by omega); have := e1 (by omega); have := e2 (by omega); have := e3 (by omega); have := e4 (by omega); have := e5 (by omega); omega
  · have := e0 (by omega); have := e1 (by omega); have := e2 (by omega); have := e3 (by omega); have := e4 (by omega); have := e5 (by omega); have := e6 (by omega); omega
theorem num_eq (f g : Nat → Int) (he : ∀ t, t < 8 → f t = g t) : num8 f = num8 g := by
  simp only [num8, he 0 (by omega), he 1 (by omega), he 2 (by omega), he 3 (by omega), he 4 (by omega), he 5 (by omega), he 6 (by omega), he 7 (by omega)]

theorem scn_lt {xs ys : List Int} (ha : xs.length = 8192) (hb : ys.length = 8192) (hwa : ∀ z ∈ xs, (Lit.int .u8 z).wf = true) (hwb : ∀ z ∈ ys, (Lit.int .u8 z).wf = true) {k : Nat} (hk : k < 8) (he : ∀ t, t < k → xs.getD (40 + t) 0 = ys.getD (40 + t) 0) (hl : xs.getD (40 + k) 0 < ys.getD (40 + k) 0) : scnOf xs < scnOf ys := by
  rw [scn_num xs ha, scn_num ys hb]
  exact num_lt _ _ (fun i => byte_bounds (wf_getD hwa _)) (fun i => byte_bounds (wf_getD hwb _)) k hk he hl
theorem scn_eq {xs ys : List Int} (ha : xs.length = 8192) (hb : ys.length = 8192) (he : ∀ t, t < 8 → xs.getD (40 + t) 0 = ys.getD (40 + t) 0) : scnOf xs = scnOf ys := by
  rw [scn_num xs ha, scn_num ys hb]
  exact num_eq _ _ he

set_option maxHeartbeats 2000000 in
theorem order_walk (xs ys : List Int) (w : World) (ha : xs.length = 8192) (hwa : ∀ z ∈ xs, (Lit.int .u8 z).wf = true) (hb : ys.length = 8192) (hwb : ∀ z ∈ ys, (Lit.int .u8 z).wf = true) :
    Calls Try.prog 4 #[.agg (cellsOf xs), .agg (cellsOf ys)] w fun e w' => e = .returned (.bool true) ∧ Below w.heap.size w w' := by
  go_enter Try.func4, Try.ntmps4
  go_wp2
  generalize hW : (w.alloc _).alloc _ = W
  have g0 : W.heap[w.heap.size]? = some (.cells (cellsOf xs) 22 (0, 0)) := by rw [← hW]; exact heap_alloc2_old _ _ _
  have g1 : W.heap[w.heap.size + 1]? = some (.cells (cellsOf ys) 22 (0, 0)) := by rw [← hW]; exact heap_alloc2_new _ _ _
  have BW : Below w.heap.size w W := by rw [← hW]; exact ((Below.refl _ _).alloc (Nat.le_refl _) _).alloc (by simp) _
  have g1' := fun o => (Below.heap_alloc W o (w.heap.size + 1) (lt_of_block g1)).trans g1
  clear hW
  go_loopw [5, 6] (fun l i wr => ∃ k q : Nat, k ≤ 8 ∧ i = .int .i64 ((40 + k : Nat) : Int) ∧ l = .int .i64 0 ∧ wr = W.drewN q ∧ ∀ t, t < k → xs.getD (40 + t) 0 = ys.getD (40 + t) 0) (fun _ i _ => 48 - (intOf i).toNat)
  case atStart => exact ⟨0, 0, by omega, rfl, rfl, rfl, fun t h => absurd h (Nat.not_lt_zero _)⟩
  case round =>
    obtain ⟨k, q, hk, rfl, rfl, rfl, hpre⟩ := hrel
    have HP : Hid (∀ t, t < k → xs.getD (40 + t) 0 = ys.getD (40 + t) 0) := hpre
    clear hpre
    by_cases hlt : k < 8
    · have c0 := cell_at g0 (40 + k) (by omega)
      have c1 := cell_at g1 (40 + k) (by omega)
      have HG0 : Hid (W.heap[w.heap.size]? = some (.cells (cellsOf xs) 22 (0, 0))) := g0
      have HG1 : Hid (W.heap[w.heap.size + 1]? = some (.cells (cellsOf ys) 22 (0, 0))) := g1
      generalize hx : xs.getD (40 + k) 0 = x at c0
      generalize hy : ys.getD (40 + k) 0 = y at c1
      have HX : Hid (xs.getD (40 + k) 0 = x) := hx
      have HY : Hid (ys.getD (40 + k) 0 = y) := hy
      clear hx hy
      by_cases heq : x = y
      · have hn : (x != y) = false := by simpa using heq
        go_wp2
        go_quiet (fail)
        go_wp2
        go_roundw
        case rel =>
          refine ⟨k + 1, _, by omega, by go_num, rfl, rfl, fun t ht => ?_⟩
          by_cases e : t = k
          · subst e; rw [HX.out, HY.out]; exact heq
          · exact HP.out t (by omega)
        case measure => simp [intOf]; omega
      · have hn : (x != y) = true := by simpa using heq
        by_cases hl : x < y
        · go_wp2
          go_quiet (fail)
          go_wp2
          go_quiet (fail)
          have hs : scnOf xs < scnOf ys := scn_lt ha hb hwa hwb hlt HP.out (by rw [HX.out, HY.out]; exact hl)
          have hs' : (scnOf xs == scnOf ys) = false := by simp; omega
          clear c0 c1
          go_wp2_with (first | (refine at_op (.load 22 (.tmp 2)) rfl ?_; refine wpList_load rfl 22 (.tmp 2) rfl Try.underlying22 info22 w.heap.size rfl xs ha 22 (by exact g0) ?_) | (refine at_ops (.alloc 23) (.store 23 (.tmp 7) (.tmp 29)) rfl rfl ?_; refine wpList_new rfl rfl 23 rfl (.tmp 7) (.tmp 29) rfl made23 xs ha rfl rfl ?_) | (refine at_op (.load 22 (.tmp 3)) rfl ?_; refine wpList_load rfl 22 (.tmp 3) rfl Try.underlying22 info22 (w.heap.size + 1) rfl ys hb 22 (by exact g1' _) ?_) | (refine at_ops (.alloc 23) (.store 23 (.tmp 8) (.tmp 30)) rfl rfl ?_; refine wpList_new rfl rfl 23 rfl (.tmp 8) (.tmp 30) rfl made23 ys hb rfl rfl ?_) | fail)
          generalize hV : ((W.drewN _).alloc _).alloc _ = V
          have BV : Below w.heap.size w V := by rw [← hV]; exact ((below_drewN BW _).alloc BW.size _).alloc (by have := BW.size; simp; omega) _
          have k0 : V.heap[W.heap.size]? = some (.cells (cellsOf xs) 23 (0, 0)) := by rw [← hV]; exact heap_alloc2_old _ _ _
          have k1 : V.heap[W.heap.size + 1]? = some (.cells (cellsOf ys) 23 (0, 0)) := by rw [← hV]; exact heap_alloc2_new _ _ _
          clear hV g0 g1 g1' BW
          refine (scn7 _ xs _ _ ha hwa (by exact k0)).mono ?_
          rintro e w3 ⟨rfl, B3⟩
          have B3' : Below w.heap.size w w3 := BV.trans (B3.mono BV.size)
          have k2 : w3.heap[W.heap.size + 1]? = some (.cells (cellsOf ys) 23 (0, 0)) := (B3.block _ (lt_of_block k1)).trans k1
          go_wp2_with fail
          refine (scn7 _ ys _ _ hb hwb (by exact k2)).mono ?_
          rintro e w4 ⟨rfl, B4⟩
          go_wp2
          go_ret
          exact ⟨rfl, B3'.trans (B4.mono B3'.size)⟩
        · have hl' : y < x := by omega
          go_wp2
          go_quiet (fail)
          go_wp2
          go_quiet (fail)
          have hs : decide (scnOf xs < scnOf ys) = false := by
            have := scn_lt hb ha hwb hwa hlt (fun t ht => (HP.out t ht).symm) (by rw [HX.out, HY.out]; exact hl')
            exact decide_eq_false (by omega)
          have hs' : (scnOf xs == scnOf ys) = false := by
            have := scn_lt hb ha hwb hwa hlt (fun t ht => (HP.out t ht).symm) (by rw [HX.out, HY.out]; exact hl')
            simp; omega
          clear c0 c1
          go_wp2_with (first | (refine at_op (.load 22 (.tmp 2)) rfl ?_; refine wpList_load rfl 22 (.tmp 2) rfl Try.underlying22 info22 w.heap.size rfl xs ha 22 (by exact g0) ?_) | (refine at_ops (.alloc 23) (.store 23 (.tmp 7) (.tmp 29)) rfl rfl ?_; refine wpList_new rfl rfl 23 rfl (.tmp 7) (.tmp 29) rfl made23 xs ha rfl rfl ?_) | (refine at_op (.load 22 (.tmp 3)) rfl ?_; refine wpList_load rfl 22 (.tmp 3) rfl Try.underlying22 info22 (w.heap.size + 1) rfl ys hb 22 (by exact g1' _) ?_) | (refine at_ops (.alloc 23) (.store 23 (.tmp 8) (.tmp 30)) rfl rfl ?_; refine wpList_new rfl rfl 23 rfl (.tmp 8) (.tmp 30) rfl made23 ys hb rfl rfl ?_) | fail)
          generalize hV : ((W.drewN _).alloc _).alloc _ = V
          have BV : Below w.heap.size w V := by rw [← hV]; exact ((below_drewN BW _).alloc BW.size _).alloc (by have := BW.size; simp; omega) _
          have k0 : V.heap[W.heap.size]? = some (.cells (cellsOf xs) 23 (0, 0)) := by rw [← hV]; exact heap_alloc2_old _ _ _
          have k1 : V.heap[W.heap.size + 1]? = some (.cells (cellsOf ys) 23 (0, 0)) := by rw [← hV]; exact heap_alloc2_new _ _ _
          clear hV g0 g1 g1' BW
          refine (scn7 _ xs _ _ ha hwa (by exact k0)).mono ?_
          rintro e w3 ⟨rfl, B3⟩
          have B3' : Below w.heap.size w w3 := BV.trans (B3.mono BV.size)
          have k2 : w3.heap[W.heap.size + 1]? = some (.cells (cellsOf ys) 23 (0, 0)) := (B3.block _ (lt_of_block k1)).trans k1
          go_wp2_with fail
          refine (scn7 _ ys _ _ hb hwb (by exact k2)).mono ?_
          rintro e w4 ⟨rfl, B4⟩
          go_wp2
          go_ret
          exact ⟨rfl, B3'.trans (B4.mono B3'.size)⟩
    · obtain rfl : k = 8 := by omega
      have he := scn_eq ha hb HP.out
      have hs : decide (scnOf xs < scnOf ys) = false := decide_eq_false (by omega)
      have hs' : (scnOf xs == scnOf ys) = true := by simp; omega
      clear he
      go_wp2_with (first | (refine at_op (.load 22 (.tmp 2)) rfl ?_; refine wpList_load rfl 22 (.tmp 2) rfl Try.underlying22 info22 w.heap.size rfl xs ha 22 (by exact g0) ?_) | (refine at_ops (.alloc 23) (.store 23 (.tmp 7) (.tmp 29)) rfl rfl ?_; refine wpList_new rfl rfl 23 rfl (.tmp 7) (.tmp 29) rfl made23 xs ha rfl rfl ?_) | (refine at_op (.load 22 (.tmp 3)) rfl ?_; refine wpList_load rfl 22 (.tmp 3) rfl Try.underlying22 info22 (w.heap.size + 1) rfl ys hb 22 (by exact g1' _) ?_) | (refine at_ops (.alloc 23) (.store 23 (.tmp 8) (.tmp 30)) rfl rfl ?_; refine wpList_new rfl rfl 23 rfl (.tmp 8) (.tmp 30) rfl made23 ys hb rfl rfl ?_) | fail)
      generalize hV : ((W.drewN _).alloc _).alloc _ = V
      have BV : Below w.heap.size w V := by rw [← hV]; exact ((below_drewN BW _).alloc BW.size _).alloc (by have := BW.size; simp; omega) _
      have k0 : V.heap[W.heap.size]? = some (.cells (cellsOf xs) 23 (0, 0)) := by rw [← hV]; exact heap_alloc2_old _ _ _
      have k1 : V.heap[W.heap.size + 1]? = some (.cells (cellsOf ys) 23 (0, 0)) := by rw [← hV]; exact heap_alloc2_new _ _ _
      clear hV g0 g1 g1' BW
      refine (scn7 _ xs _ _ ha hwa (by exact k0)).mono ?_
      rintro e w3 ⟨rfl, B3⟩
      have B3' : Below w.heap.size w w3 := BV.trans (B3.mono BV.size)
      have k2 : w3.heap[W.heap.size + 1]? = some (.cells (cellsOf ys) 23 (0, 0)) := (B3.block _ (lt_of_block k1)).trans k1
      go_wp2_with fail
      refine (scn7 _ ys _ _ hb hwb (by exact k2)).mono ?_
      rintro e w4 ⟨rfl, B4⟩
      go_wp2
      go_ret
      exact ⟨rfl, B3'.trans (B4.mono B3'.size)⟩
end Go.Proofs.Qxb6612825a
