/-
  THE WALK OF FnSetNodeLogsLastWriteWins.
-/
import Derived.Test.Qxb6612825aSet
namespace Go.Proofs.Qxb6612825a
open Go.RowKit Go.Proofs.Qxb6612825a.Big
set_option linter.unusedVariables false

theorem info23 : (Try.prog.info? 23).map (·.size) = some 8192 := by kernel_rfl

theorem put16_put16 (zs : List Int) (off : Nat) (n m : Int) : put16 (put16 zs off n) off m = put16 zs off m := by
  unfold put16
  apply List.ext_getElem?
  intro i
  simp only [List.getElem?_set, List.length_set]
  split
  · rfl
  · split
    · rfl
    · simp

theorem grown_below {w a b : World} {B g : Nat} (h : Below B w a) (hg : a.grownBy b (some g)) (hB : B ≤ a.heap.size) (hr : B ≤ g) : Below B w b :=
  h.grown hg hB (fun k e => by simp at e; omega)

theorem i64_and65535 (n : Int) : bits .and .i64 n 65535 = n % 65536 := by
  have hm : (BitVec.ofInt 64 65535).toNat = 2 ^ 16 - 1 := by decide
  have key : (BitVec.ofInt 64 n &&& BitVec.ofInt 64 65535).toNat = (n % ((2 ^ 64 : Nat) : Int)).toNat % 2 ^ 16 := by
    rw [BitVec.toNat_and, BitVec.toNat_ofInt, hm, Nat.and_two_pow_sub_one_eq_mod]
  show IntKind.i64.wrap ((BitVec.ofInt 64 n &&& BitVec.ofInt 64 65535).toNat : Nat) = n % 65536
  rw [key, IntKind.wrap_i64]
  omega
theorem i64_or_byte (x y : Int) (hx0 : 0 ≤ x) (hx : x % 256 = 0) (hx1 : x < 65536) (hy0 : 0 ≤ y) (hy : y < 256) : bits .or .i64 x y = x + y :=
  bits_join .i64 16 (by decide) (fun n h0 h1 => by rw [IntKind.wrap_i64]; omega) 8 x y hx0 hx hx1 hy0 hy (by omega)
theorem be16 (m : Int) : (bits BinOp.or IntKind.i64 (m / 256 % 256 * 256) (m % 256) == bits BinOp.and IntKind.i64 m 65535) = true := by
  rw [i64_and65535, i64_or_byte _ _ (by omega) (by omega) (by omega) (by omega) (by omega)]
  simp
  omega

set_option maxHeartbeats 1000000 in
theorem wins_walk (zs : List Int) (n m : Int) (w : World) (hz : zs.length = 8192) (hw : ∀ z ∈ zs, (Lit.int .u8 z).wf = true) :
    Calls Try.prog 5 #[.agg (cellsOf zs), .int .i64 n, .int .i64 m] w fun e w' => e = .returned (.bool true) ∧ Below w.heap.size w w' := by
  go_enter Try.func5, Try.ntmps5
  go_wp2_with (first | (refine at_op (.load 22 (.tmp 3)) rfl ?_; refine wpList_load rfl 22 (.tmp 3) rfl Try.underlying22 info22 w.heap.size rfl zs hz 22 (heap_alloc_new _ _) ?_) | (refine at_ops (.alloc 23) (.store 23 (.tmp 7) (.tmp 12)) rfl rfl ?_; refine wpList_new rfl rfl 23 rfl (.tmp 7) (.tmp 12) rfl made23 zs hz rfl rfl ?_) | fail)
  generalize hW : (w.alloc _).alloc _ = W
  have g0 : W.heap[w.heap.size]? = some (.cells (cellsOf zs) 22 (0, 0)) := by rw [← hW]; exact heap_alloc2_old _ _ _
  have g1 : W.heap[w.heap.size + 1]? = some (.cells (cellsOf zs) 23 (0, 0)) := by rw [← hW]; exact heap_alloc2_new _ _ _
  have BW : Below w.heap.size w W := by rw [← hW]; exact ((Below.refl _ _).alloc (Nat.le_refl _) _).alloc (by simp) _
  clear hW
  refine (logs8 _ n zs 23 _ hz g1).mono ?_
  rintro e W1 ⟨rfl, h1, r1⟩
  have g0 : W1.heap[w.heap.size]? = some (.cells (cellsOf zs) 22 (0, 0)) := (r1.block _ (lt_of_block g0) (by simp)).trans g0
  have BW : Below w.heap.size w W1 := grown_below BW r1 BW.size (by omega)
  clear g1 r1
  go_wp2_with fail
  refine (logs8 _ m _ 23 _ (by rw [put16_length]; exact hz) h1).mono ?_
  rintro e W2 ⟨rfl, h2, r2⟩
  have g0 : W2.heap[w.heap.size]? = some (.cells (cellsOf zs) 22 (0, 0)) := (r2.block _ (lt_of_block g0) (by simp)).trans g0
  have BW : Below w.heap.size w W2 := grown_below BW r2 BW.size (by omega)
  clear h1 r2
  rw [put16_put16] at h2
  go_wp2_with (first | (refine at_op (.load 22 (.tmp 3)) rfl ?_; refine wpList_load rfl 22 (.tmp 3) rfl Try.underlying22 info22 w.heap.size rfl zs hz 22 g0 ?_) | (refine at_ops (.alloc 23) (.store 23 (.tmp 8) (.tmp 17)) rfl rfl ?_; refine wpList_new rfl rfl 23 rfl (.tmp 8) (.tmp 17) rfl made23 zs hz rfl rfl ?_) | fail)
  have lt1 : w.heap.size + 1 < W2.heap.size := lt_of_block h2
  have ltw : w.heap.size < W2.heap.size := by omega
  have g0 : (W2.alloc (.cells (cellsOf zs) 23)).heap[w.heap.size]? = some (.cells (cellsOf zs) 22 (0, 0)) := (Below.heap_alloc _ _ _ ltw).trans g0
  have h2 : (W2.alloc (.cells (cellsOf zs) 23)).heap[w.heap.size + 1]? = some (.cells (cellsOf (put16 zs 90 m)) 23 (0, 0)) := (Below.heap_alloc _ _ _ lt1).trans h2
  have BW : Below w.heap.size w (W2.alloc (.cells (cellsOf zs) 23)) := BW.alloc BW.size _
  have h3 := heap_alloc_new W2 (.cells (cellsOf zs) 23)
  refine (logs8 _ m zs 23 _ hz h3).mono ?_
  rintro e W3 ⟨rfl, h3', r3⟩
  have g0 : W3.heap[w.heap.size]? = some (.cells (cellsOf zs) 22 (0, 0)) := (r3.block _ (lt_of_block g0) (by simp; omega)).trans g0
  have h2 : W3.heap[w.heap.size + 1]? = some (.cells (cellsOf (put16 zs 90 m)) 23 (0, 0)) := (r3.block _ (lt_of_block h2) (by simp; omega)).trans h2
  have BW : Below w.heap.size w W3 := grown_below BW r3 BW.size (by omega)
  clear h3 r3
  have hl : (put16 zs 90 m).length = 8192 := by rw [put16_length]; exact hz
  have h3a := fun o => (Below.heap_alloc W3 o W2.heap.size (lt_of_block h3')).trans h3'
  go_wp2_with (first | (refine at_op (.load 23 (.tmp 7)) rfl ?_; refine wpList_load rfl 23 (.tmp 7) rfl Try.underlying23 info23 (w.heap.size + 1) rfl _ hl 23 h2 ?_) | (refine at_ops (.alloc 22) (.store 22 (.tmp 9) (.tmp 20)) rfl rfl ?_; refine wpList_new rfl rfl 22 rfl (.tmp 9) (.tmp 20) rfl made22 _ hl rfl rfl ?_) | (refine at_op (.load 23 (.tmp 8)) rfl ?_; refine wpList_load rfl 23 (.tmp 8) rfl Try.underlying23 info23 W2.heap.size rfl _ hl 23 (h3a _) ?_) | (refine at_ops (.alloc 22) (.store 22 (.tmp 10) (.tmp 21)) rfl rfl ?_; refine wpList_new rfl rfl 22 rfl (.tmp 10) (.tmp 21) rfl made22 _ hl rfl rfl ?_) | fail)
  generalize hV : (W3.alloc _).alloc _ = V
  have k0 : V.heap[w.heap.size]? = some (.cells (cellsOf zs) 22 (0, 0)) := by rw [← hV]; exact (Below.heap_alloc _ _ _ (by have := lt_of_block g0; simp; omega)).trans ((Below.heap_alloc _ _ _ (lt_of_block g0)).trans g0)
  have k1 : V.heap[W3.heap.size]? = some (.cells (cellsOf (put16 zs 90 m)) 22 (0, 0)) := by rw [← hV]; exact heap_alloc2_old _ _ _
  have k2 : V.heap[W3.heap.size + 1]? = some (.cells (cellsOf (put16 zs 90 m)) 22 (0, 0)) := by rw [← hV]; exact heap_alloc2_new _ _ _
  have BV : Below w.heap.size w V := by rw [← hV]; exact (BW.alloc BW.size _).alloc (by have := BW.size; simp; omega) _
  clear hV g0 h2 h3' h3a BW
  refine (same9 _ _ _ _ _ _ _ hl hl k1 k2).mono ?_
  rintro e V1 ⟨rfl, q, rfl⟩
  rw [sameB_true rfl]
  have g90 : (put16 zs 90 m).getD 90 0 = m / 256 % 256 := by simp [put16, hz]
  have g91 : (put16 zs 90 m).getD 91 0 = m % 256 := by simp [put16, hz]
  have gk : ∀ k, k < 8192 → k ≠ 90 → k ≠ 91 → (put16 zs 90 m).getD k 0 = zs.getD k 0 := by
    intro k hk h1 h2
    have e1 : ¬ 91 = k := fun e => h2 e.symm
    have e2 : ¬ 90 = k := fun e => h1 e.symm
    simp [put16, e1, e2]
  have HK : Hid (∀ k, k < 8192 → k ≠ 90 → k ≠ 91 → (put16 zs 90 m).getD k 0 = zs.getD k 0) := gk
  clear gk
  have c90 := cell_at k2 90 (by omega)
  have c91 := cell_at k2 91 (by omega)
  rw [g90] at c90
  rw [g91] at c91
  clear g90 g91
  go_wp2
  go_loopw [11] (fun i wr => ∃ k n : Nat, k ≤ 8192 ∧ i = .int .i64 k ∧ wr = V.drewN n) (fun i _ => 8192 - (intOf i).toNat)
  case atStart => exact ⟨0, q, by omega, rfl, rfl⟩
  case round =>
    obtain ⟨k, nq1, hk, rfl, rfl⟩ := hrel
    by_cases hlt : k < 8192
    · have b1 : (k : Int) < 8192 := by omega
      by_cases e0 : k = 90
      · subst e0
        go_wp2
        go_quiet (fail)
        go_wp2
        go_roundw
        case rel => exact ⟨91, _, by omega, rfl, rfl⟩
        case measure => simp [intOf]
      by_cases e1 : k = 91
      · subst e1
        go_wp2
        go_quiet (fail)
        go_wp2
        go_roundw
        case rel => exact ⟨92, _, by omega, rfl, rfl⟩
        case measure => simp [intOf]
      have c0 := cell_at k2 k (by omega)
      have c1 := cell_at k0 k (by omega)
      rw [HK.out k hlt e0 e1] at c0
      generalize zs.getD k 0 = x at c0 c1
      have n0 : ((k : Int) != 90) = true := by simp; omega
      have n1 : ((k : Int) != 91) = true := by simp; omega
      clear k0 k1 k2 hz hl hlt
      go_wp2
      go_quiet (fail)
      go_wp2
      go_roundw
      case rel => exact ⟨k + 1, _, by omega, by go_num, rfl⟩
      case measure => simp [intOf]; omega
    · have b1 : ¬ (k : Int) < 8192 := by omega
      clear k0 k1 k2 hz hl hlt
      have hfin := be16 m
      go_wp2
      go_ret
      exact ⟨rfl, below_drewN BV _⟩
end Go.Proofs.Qxb6612825a
