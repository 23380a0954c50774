/-
  THE WALK OF FnSetNodeLogsSeparatesMod16.
-/
import Derived.Test.Qxb6612825aWinsWalk
namespace Go.Proofs.Qxb6612825a
open Go.RowKit Go.Proofs.Qxb6612825a.Big
set_option linter.unusedVariables false

theorem put16_90 {zs : List Int} (hz : zs.length = 8192) (m : Int) : (put16 zs 90 m).getD 90 0 = m / 256 % 256 := by simp [put16, hz]
theorem put16_91 {zs : List Int} (hz : zs.length = 8192) (m : Int) : (put16 zs 90 m).getD 91 0 = m % 256 := by simp [put16, hz]
theorem put16_other (zs : List Int) (m : Int) (k : Nat) (h1 : k ≠ 90) (h2 : k ≠ 91) : (put16 zs 90 m).getD k 0 = zs.getD k 0 := by
  have e1 : ¬ 91 = k := fun e => h2 e.symm
  have e2 : ¬ 90 = k := fun e => h1 e.symm
  simp [put16, e1, e2]
theorem put16_scn {zs : List Int} (hz : zs.length = 8192) (m : Int) : scnOf (put16 zs 90 m) = scnOf zs := by
  rw [scn_num zs hz, scn_num _ (by rw [put16_length]; exact hz)]
  simp only [num8, put16_other zs m _ (by omega : 40 + 0 ≠ 90) (by omega), put16_other zs m _ (by omega : 40 + 1 ≠ 90) (by omega), put16_other zs m _ (by omega : 40 + 2 ≠ 90) (by omega), put16_other zs m _ (by omega : 40 + 3 ≠ 90) (by omega), put16_other zs m _ (by omega : 40 + 4 ≠ 90) (by omega), put16_other zs m _ (by omega : 40 + 5 ≠ 90) (by omega), put16_other zs m _ (by omega : 40 + 6 ≠ 90) (by omega), put16_other zs m _ (by omega : 40 + 7 ≠ 90) (by omega)]
theorem put16_wf {zs : List Int} (h : ∀ z ∈ zs, (Lit.int .u8 z).wf = true) (off : Nat) (m : Int) : ∀ z ∈ put16 zs off m, (Lit.int .u8 z).wf = true := by
  have b : ∀ x : Int, (Lit.int .u8 (x % 256)).wf = true := by
    intro x
    simp [Lit.wf, IntKind.min, IntKind.max, IntKind.bits, IntKind.signed]
    omega
  exact wf_set (wf_set h (b _)) (b _)
theorem put16_eq {zs : List Int} (hz : zs.length = 8192) (n m : Int) : put16 zs 90 n = put16 zs 90 m ↔ n % 65536 = m % 65536 := by
  constructor
  · intro h
    have a := put16_90 hz n
    have b := put16_91 hz n
    rw [h, put16_90 hz m] at a
    rw [h, put16_91 hz m] at b
    omega
  · intro h
    have e1 : n / 256 % 256 = m / 256 % 256 := by omega
    have e2 : n % 256 = m % 256 := by omega
    unfold put16
    rw [e1, e2]

set_option maxHeartbeats 1000000 in
theorem mod_walk (zs : List Int) (n m : Int) (w : World) (hz : zs.length = 8192) (hw : ∀ z ∈ zs, (Lit.int .u8 z).wf = true) :
    Calls Try.prog 6 #[.agg (cellsOf zs), .int .i64 n, .int .i64 m] w fun e w' => e = .returned (.bool true) ∧ Below w.heap.size w w' := by
  have hln : (put16 zs 90 n).length = 8192 := by rw [put16_length]; exact hz
  have hlm : (put16 zs 90 m).length = 8192 := by rw [put16_length]; exact hz
  go_enter Try.func6, Try.ntmps6
  go_wp2_with (first | (refine at_op (.load 22 (.tmp 3)) rfl ?_; refine wpList_load rfl 22 (.tmp 3) rfl Try.underlying22 info22 w.heap.size rfl zs hz 22 (heap_alloc_new _ _) ?_) | (refine at_ops (.alloc 23) (.store 23 (.tmp 7) (.tmp 13)) rfl rfl ?_; refine wpList_new rfl rfl 23 rfl (.tmp 7) (.tmp 13) rfl made23 zs hz rfl rfl ?_) | fail)
  generalize hW : (w.alloc _).alloc _ = W
  have g0 : W.heap[w.heap.size]? = some (.cells (cellsOf zs) 22 (0, 0)) := by rw [← hW]; exact heap_alloc2_old _ _ _
  have g1 : W.heap[w.heap.size + 1]? = some (.cells (cellsOf zs) 23 (0, 0)) := by rw [← hW]; exact heap_alloc2_new _ _ _
  have BW : Below w.heap.size w W := by rw [← hW]; exact ((Below.refl _ _).alloc (Nat.le_refl _) _).alloc (by simp) _
  clear hW
  refine (logs8 _ n zs 23 _ hz g1).mono ?_
  rintro e W2 ⟨rfl, h2, r1⟩
  have g0 : W2.heap[w.heap.size]? = some (.cells (cellsOf zs) 22 (0, 0)) := (r1.block _ (lt_of_block g0) (by simp)).trans g0
  have BW : Below w.heap.size w W2 := grown_below BW r1 BW.size (by omega)
  clear g1 r1
  go_wp2_with (first | (refine at_op (.load 22 (.tmp 3)) rfl ?_; refine wpList_load rfl 22 (.tmp 3) rfl Try.underlying22 info22 w.heap.size rfl zs hz 22 g0 ?_) | (refine at_ops (.alloc 23) (.store 23 (.tmp 8) (.tmp 16)) rfl rfl ?_; refine wpList_new rfl rfl 23 rfl (.tmp 8) (.tmp 16) rfl made23 zs hz rfl rfl ?_) | fail)
  have lt1 : w.heap.size + 1 < W2.heap.size := lt_of_block h2
  have ltw : w.heap.size < W2.heap.size := by omega
  have g0 : (W2.alloc (.cells (cellsOf zs) 23)).heap[w.heap.size]? = some (.cells (cellsOf zs) 22 (0, 0)) := (Below.heap_alloc _ _ _ ltw).trans g0
  have h2 : (W2.alloc (.cells (cellsOf zs) 23)).heap[w.heap.size + 1]? = some (.cells (cellsOf (put16 zs 90 n)) 23 (0, 0)) := (Below.heap_alloc _ _ _ lt1).trans h2
  have BW : Below w.heap.size w (W2.alloc (.cells (cellsOf zs) 23)) := BW.alloc BW.size _
  have h3 := heap_alloc_new W2 (.cells (cellsOf zs) 23)
  refine (logs8 _ m zs 23 _ hz h3).mono ?_
  rintro e W3 ⟨rfl, h3', r3⟩
  have g0 : W3.heap[w.heap.size]? = some (.cells (cellsOf zs) 22 (0, 0)) := (r3.block _ (lt_of_block g0) (by simp; omega)).trans g0
  have h2 : W3.heap[w.heap.size + 1]? = some (.cells (cellsOf (put16 zs 90 n)) 23 (0, 0)) := (r3.block _ (lt_of_block h2) (by simp; omega)).trans h2
  have BW : Below w.heap.size w W3 := grown_below BW r3 BW.size (by omega)
  clear h3 r3
  have h2a := fun o => (Below.heap_alloc W3 o (w.heap.size + 1) (lt_of_block h2)).trans h2
  have h3a := fun o p => (Below.heap_alloc (W3.alloc o) p W2.heap.size (by have := lt_of_block h3'; simp; omega)).trans ((Below.heap_alloc W3 o W2.heap.size (lt_of_block h3')).trans h3')
  go_wp2_with (first | (refine at_op (.load 22 (.tmp 3)) rfl ?_; refine wpList_load rfl 22 (.tmp 3) rfl Try.underlying22 info22 w.heap.size rfl zs hz 22 g0 ?_) | (refine at_ops (.alloc 23) (.store 23 (.tmp 9) (.tmp 19)) rfl rfl ?_; refine wpList_new rfl rfl 23 rfl (.tmp 9) (.tmp 19) rfl made23 zs hz rfl rfl ?_) | (refine at_op (.load 23 (.tmp 7)) rfl ?_; refine wpList_load rfl 23 (.tmp 7) rfl Try.underlying23 info23 (w.heap.size + 1) rfl _ hln 23 (h2a _) ?_) | (refine at_ops (.alloc 22) (.store 22 (.tmp 10) (.tmp 20)) rfl rfl ?_; refine wpList_new rfl rfl 22 rfl (.tmp 10) (.tmp 20) rfl made22 _ hln rfl rfl ?_) | (refine at_op (.load 23 (.tmp 8)) rfl ?_; refine wpList_load rfl 23 (.tmp 8) rfl Try.underlying23 info23 W2.heap.size rfl _ hlm 23 (h3a _ _) ?_) | (refine at_ops (.alloc 22) (.store 22 (.tmp 11) (.tmp 21)) rfl rfl ?_; refine wpList_new rfl rfl 22 rfl (.tmp 11) (.tmp 21) rfl made22 _ hlm rfl rfl ?_) | fail)
  generalize hV : ((W3.alloc _).alloc _).alloc _ = V
  have l3 := lt_of_block h3'
  have l2 := lt_of_block h2
  have up : ∀ j, j < W3.heap.size → V.heap[j]? = W3.heap[j]? := by
    intro j hj
    rw [← hV, Below.heap_alloc _ _ _ (by simp; omega), Below.heap_alloc _ _ _ (by simp; omega), Below.heap_alloc _ _ _ hj]
  have k0 : V.heap[w.heap.size + 1]? = some (.cells (cellsOf (put16 zs 90 n)) 23 (0, 0)) := (up _ l2).trans h2
  have k1 : V.heap[W2.heap.size]? = some (.cells (cellsOf (put16 zs 90 m)) 23 (0, 0)) := (up _ l3).trans h3'
  have k2 : V.heap[W3.heap.size]? = some (.cells (cellsOf zs) 23 (0, 0)) := by
    rw [← hV, Below.heap_alloc _ _ _ (by simp; omega)]; exact heap_alloc2_old _ _ _
  have k3 : V.heap[W3.heap.size + 1]? = some (.cells (cellsOf (put16 zs 90 n)) 22 (0, 0)) := by
    rw [← hV, Below.heap_alloc _ _ _ (by simp)]; exact heap_alloc2_new _ _ _
  have k4 : V.heap[W3.heap.size + 1 + 1]? = some (.cells (cellsOf (put16 zs 90 m)) 22 (0, 0)) := by
    rw [← hV]
    have := heap_alloc_new ((W3.alloc (.cells (cellsOf zs) 23)).alloc (.cells (cellsOf (put16 zs 90 n)) 22)) (.cells (cellsOf (put16 zs 90 m)) 22)
    simpa using this
  have BV : Below w.heap.size w V := by rw [← hV]; exact ((BW.alloc BW.size _).alloc (by have := BW.size; simp; omega) _).alloc (by have := BW.size; simp; omega) _
  clear hV up g0 h2 h3' h2a h3a BW l2 l3
  refine (same9 _ _ _ _ _ _ _ hln hlm k3 k4).mono ?_
  rintro e V1 ⟨rfl, q, rfl⟩
  clear k3 k4
  have S0 : Hid (∀ U : World, (∀ j, j < V.heap.size → U.heap[j]? = V.heap[j]?) → Calls Try.prog 7 #[.pointer (some ⟨w.heap.size + 1, 0, none⟩)] U fun e w' => e = .returned (.int .u64 (scnOf zs)) ∧ Below U.heap.size U w') := by
    intro U hU
    have := scn7 (w.heap.size + 1) _ 23 U hln (put16_wf hw 90 n) ((hU _ (lt_of_block k0)).trans k0)
    rw [put16_scn hz] at this
    exact this
  have S1 : Hid (∀ U : World, (∀ j, j < V.heap.size → U.heap[j]? = V.heap[j]?) → Calls Try.prog 7 #[.pointer (some ⟨W2.heap.size, 0, none⟩)] U fun e w' => e = .returned (.int .u64 (scnOf zs)) ∧ Below U.heap.size U w') := by
    intro U hU
    have := scn7 W2.heap.size _ 23 U hlm (put16_wf hw 90 m) ((hU _ (lt_of_block k1)).trans k1)
    rw [put16_scn hz] at this
    exact this
  have S2 : Hid (∀ U : World, (∀ j, j < V.heap.size → U.heap[j]? = V.heap[j]?) → Calls Try.prog 7 #[.pointer (some ⟨W3.heap.size, 0, none⟩)] U fun e w' => e = .returned (.int .u64 (scnOf zs)) ∧ Below U.heap.size U w') := by
    intro U hU
    exact scn7 W3.heap.size _ 23 U hz hw ((hU _ (lt_of_block k2)).trans k2)
  clear k0 k1 k2 hln hlm hw
  generalize scnOf zs = sv at S0 S1 S2
  have hsv : (sv == sv) = true := by simp
  have hbits : (bits BinOp.and IntKind.i64 n 65535 == bits BinOp.and IntKind.i64 m 65535) = sameB (put16 zs 90 n) (put16 zs 90 m) := by
    rw [i64_and65535, i64_and65535]
    by_cases h : n % 65536 = m % 65536
    · rw [sameB_true ((put16_eq hz n m).2 h)]; simpa using h
    · rw [sameB_false (fun e => h ((put16_eq hz n m).1 e))]; simpa using h
  generalize sameB (put16 zs 90 n) (put16 zs 90 m) = sb at hbits
  cases sb
  all_goals
    go_wp2_with fail
    refine (S0.out _ (fun j hj => by rfl)).mono ?_
    rintro e U1 ⟨rfl, B1⟩
    have E1 : Hid (∀ j, j < V.heap.size → U1.heap[j]? = V.heap[j]?) := fun j hj => B1.block j hj
    have BU : Below w.heap.size w U1 := BV.trans ((below_drewN (Below.refl _ _) _).trans (B1.mono BV.size))
    have Z1 : Hid (V.heap.size ≤ U1.heap.size) := B1.size
    clear B1
    go_wp2_with fail
    refine (S2.out _ E1.out).mono ?_
    rintro e U2 ⟨rfl, B2⟩
    have E2 : Hid (∀ j, j < V.heap.size → U2.heap[j]? = V.heap[j]?) := fun j hj => (B2.block j (Nat.lt_of_lt_of_le hj Z1.out)).trans (E1.out j hj)
    have BU : Below w.heap.size w U2 := BU.trans (B2.mono BU.size)
    have Z2 : Hid (V.heap.size ≤ U2.heap.size) := Nat.le_trans Z1.out B2.size
    clear B2
    go_wp2_with fail
    refine (S1.out _ E2.out).mono ?_
    rintro e U3 ⟨rfl, B3⟩
    have E3 : Hid (∀ j, j < V.heap.size → U3.heap[j]? = V.heap[j]?) := fun j hj => (B3.block j (Nat.lt_of_lt_of_le hj Z2.out)).trans (E2.out j hj)
    have BU : Below w.heap.size w U3 := BU.trans (B3.mono BU.size)
    clear B3
    go_wp2_with fail
    refine (S2.out _ E3.out).mono ?_
    rintro e U4 ⟨rfl, B4⟩
    have BU : Below w.heap.size w U4 := BU.trans (B4.mono BU.size)
    clear B4
    go_wp2
    go_ret
    exact ⟨rfl, BU⟩
end Go.Proofs.Qxb6612825a
