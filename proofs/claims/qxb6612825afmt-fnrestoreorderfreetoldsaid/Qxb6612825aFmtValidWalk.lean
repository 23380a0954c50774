/-
  THE WALK OF zzValid.
-/
import Derived.Test.Qxb6612825aFmtBase2
import Derived.Test.Qxb6612825aFmtValid
namespace Go.Proofs.Qxb6612825aFmt
open Go.RowKit Go.Proofs.Qxb6612825aFmt.Big
set_option linter.unusedVariables false

def isFalse : Value → Bool | .bool b => !b | _ => false
set_option maxRecDepth 1000000 in
theorem made36 : (Tryf.prog.info? 36).map (fun i => (i.zero.map fun v => (v.cells.size, v.cells.toList.all isFalse), i.size)) = some (some (8192, true), 8192) := by kernel_rfl

/-- The array of marks: us k at each k. -/
def Marks (w : World) (g : Nat) (us : Nat → Bool) : Prop := ∃ C : Array Value, C.size = 8192 ∧ w.heap[g]? = some (.cells C 36 (0, 0)) ∧ ∀ k, k < 8192 → C[k]? = some (.bool (us k))
theorem Marks.lt {w : World} {g : Nat} {us : Nat → Bool} (h : Marks w g us) : g < w.heap.size := by
  obtain ⟨C, _, hg, _⟩ := h
  exact lt_of_block hg
theorem Marks.cell {w : World} {g : Nat} {us : Nat → Bool} (h : Marks w g us) (k : Nat) (hk : k < 8192) : w.cell? ⟨g, k, none⟩ = some (.bool (us k)) := by
  obtain ⟨C, _, hg, hC⟩ := h
  rw [cell_of_row w g k C 36 (0, 0) hg]
  exact hC k hk
theorem Marks.frozen {w : World} {g : Nat} {us : Nat → Bool} (h : Marks w g us) (k : Nat) : w.frozen? ⟨g, k, none⟩ = false := by
  obtain ⟨C, _, hg, _⟩ := h
  exact frozen_of_row _ _ _ _ _ hg
theorem Marks.heap {w w' : World} {g : Nat} {us : Nat → Bool} (h : Marks w g us) (e : w'.heap[g]? = w.heap[g]?) : Marks w' g us := by
  obtain ⟨C, h1, hg, h2⟩ := h
  exact ⟨C, h1, e.trans hg, h2⟩
theorem Marks.set {w : World} {g : Nat} {us : Nat → Bool} (h : Marks w g us) (m : Nat) (hm : m < 8192) : Marks (w.setCell ⟨g, m, none⟩ (.bool true)) g (fun k => if k = m then true else us k) := by
  obtain ⟨C, h1, hg, h2⟩ := h
  refine ⟨C.setIfInBounds m (.bool true), by simpa using h1, heap_setCell_same _ _ _ _ _ _ hg, fun k hk => ?_⟩
  rw [Array.getElem?_setIfInBounds]
  by_cases e : m = k
  · subst e; simp [h1, hk]
  · have e' : ¬ k = m := fun x => e x.symm
    simp only [e, if_false, e']
    exact h2 k hk

theorem wpList_marks {ops : Array Oper} {rest : List Oper} {o : Oper} {a : Act} {w : World} {Q : Exit → Act → World → Prop} (hgd : o.guard = none) (ho : o.op = .alloc 36)
    (h : ∀ w', Marks w' w.heap.size (fun _ => false) → Below w.heap.size w w' → w'.heap.size = w.heap.size + 1 → wpList Tryf.prog ops Q rest (a.put o.dst (.pointer (some ⟨w.heap.size, 0, none⟩))) w') : wpList Tryf.prog ops Q (o :: rest) a w := by
  refine wpList_plain hgd fun K hK => ?_
  have hi := made36
  cases hq : Tryf.prog.info? 36 with
  | none => rw [hq] at hi; cases hi
  | some i =>
    cases hv : i.zero with
    | none => rw [hq] at hi; simp [hv] at hi
    | some v =>
      rw [hq] at hi
      simp only [Option.map_some, hv, Option.some.injEq, Prod.mk.injEq] at hi
      have hrun : (Instr.alloc 36 true (.tuple #[])).run Tryf.prog w = .ok (.pointer (some ⟨w.heap.size, 0, none⟩)) (w.alloc (.cells v.cells 36)) := by
        have hz0 : (zeroValue 36).run Tryf.prog w = .ok v w := by simp [zeroValue, typeInfo, hq, hv]
        simp [Instr.alloc, Sem.run_bind, hz0, go_sem]
      unfold Oper.wp execOp
      simp only [ho, Sem.run_bind, Sem.run_pure, hrun, Result.andThen_ok]
      refine hK _ _ (h _ ⟨v.cells, hi.1.1, heap_alloc_new _ _, fun k hk => ?_⟩ ((Below.refl _ _).alloc (Nat.le_refl _) _) (by simp))
      have hall := hi.1.2
      rw [List.all_eq_true] at hall
      have hk' : k < v.cells.size := by rw [hi.1.1]; exact hk
      have hf := hall v.cells[k] (by simp)
      rw [Array.getElem?_eq_getElem hk']
      congr 1
      revert hf
      generalize v.cells[k] = c
      intro hf
      cases c <;> simp_all [isFalse]

/-- It tells whether the block is well formed. -/
def Tells (zs : List Int) (e : Ending) : Prop := ∃ b, e = .returned (.bool b) ∧ (b = true ↔ Valid zs)
theorem Tells.no {zs : List Int} (h : ¬ Valid zs) : Tells zs (.returned (.bool false)) := ⟨false, rfl, ⟨(fun h => by cases h), (fun hv => absurd hv h)⟩⟩
theorem Tells.yes {zs : List Int} (h : Valid zs) : Tells zs (.returned (.bool true)) := ⟨true, rfl, ⟨fun _ => h, fun _ => rfl⟩⟩

set_option maxRecDepth 100000 in
set_option maxHeartbeats 2000000 in
theorem valid6 (g : Nat) (zs : List Int) (w : World) (H : Blk w g zs) :
    Calls Tryf.prog 6 #[.pointer (some ⟨g, 0, none⟩)] w fun e w' => Tells zs e ∧ Below w.heap.size w w' := by
  have l16 : nRows zs < 65536 := H.1.u16_lt 16
  have l18 : rowSp zs < 65536 := H.1.u16_lt 18
  have l20 := H.1.u16_lt 20
  have ld : dirS zs ≤ 2000000 := by unfold dirS; omega
  have HN : Hid (nRows zs = u16 zs 16) := rfl
  have HS : Hid (rowSp zs = u16 zs 18) := rfl
  have hD := dir14 g zs w H
  have hN : ∀ q, Calls Tryf.prog 7 #[.pointer (some ⟨g, 0, none⟩), .int .i64 16] (w.drewN q) fun e w' => e = .returned (.int .i64 (nRows zs : Nat)) ∧ ∃ p, w' = (w.drewN q).drewN p := fun q => zu7 g 16 16 zs _ rfl (by omega) (H.drewN q)
  have hS : ∀ q, Calls Tryf.prog 7 #[.pointer (some ⟨g, 0, none⟩), .int .i64 18] (w.drewN q) fun e w' => e = .returned (.int .i64 (rowSp zs : Nat)) ∧ ∃ p, w' = (w.drewN q).drewN p := fun q => zu7 g 18 18 zs _ rfl (by omega) (H.drewN q)
  have HE : Hid (ent zs (nRows zs) = dirS zs + 4 * nRows zs) := rfl
  go_enter Tryf.func6, Tryf.ntmps6
  go_wp2_with fail
  refine hD.mono ?_
  rintro e w1 ⟨rfl, q1, rfl⟩
  go_wp2_with fail
  refine (hN _).mono ?_
  rintro e w2 ⟨rfl, q2, rfl⟩
  go_wp2_with fail
  refine (hS _).mono ?_
  rintro e w3 ⟨rfl, q3, rfl⟩
  clear hD hN hS
  by_cases c1 : ((dirS zs : Int) + 4 * (nRows zs : Int)) ≤ (rowSp zs : Int)
  rotate_left
  · have hno : ¬ Valid zs := fun hv => by have := hv.dir; rw [HE.out] at this; omega
    go_wp2
    go_ret
    exact ⟨Tells.no hno, below_drewN (Below.refl _ _) _⟩
  by_cases c2 : (rowSp zs : Int) ≤ 8188
  rotate_left
  · have hno : ¬ Valid zs := fun hv => by have := hv.top; omega
    go_wp2
    go_ret
    exact ⟨Tells.no hno, below_drewN (Below.refl _ _) _⟩
  go_wp2_with (refine at_op (.alloc 36) rfl ?_; refine wpList_marks rfl rfl ?_; intro w4 hM hB hz4)
  have BX : Below w.heap.size w w4 := (below_drewN (Below.refl _ _) _).trans hB
  have HH : Hid (Blk w g zs) := H
  have hg : g < w.heap.size := H.lt
  clear H hB hz4
  go_loopw [7, 8, 9] (fun lv em ii wr => ∃ (i : Nat) (us : Nat → Bool), i ≤ nRows zs ∧ ii = .int .i64 i ∧ lv = .int .i64 (live zs i : Nat) ∧ em = .int .i64 (empties zs i : Nat) ∧ Upto zs i ∧ Used zs i us ∧ Marks wr w.heap.size us ∧ Below w.heap.size w wr) (fun _ _ ii _ => nRows zs - (intOf ii).toNat)
  case atStart => exact ⟨0, fun _ => false, Nat.zero_le _, rfl, rfl, rfl, Upto.nil zs, Used.nil zs, hM, BX⟩
  case round =>
    clear hM BX
    obtain ⟨i, us, hi, rfl, rfl, rfl, hU, hUs, hM, BX⟩ := hrel
    have ll := live_le zs i
    have le := empties_le zs i
    by_cases hlt : i < nRows zs
    · have HB : Hid (Blk wr g zs) := HH.out.below BX
      have he : ent zs i + 4 ≤ 8188 := by unfold ent; omega
      have HEE : Hid (ent zs i = dirS zs + 4 * i) := rfl
      have hO : Calls Tryf.prog 7 #[.pointer (some ⟨g, 0, none⟩), .int .i64 ((dirS zs : Int) + 4 * (i : Int))] wr fun e w' => e = .returned (.int .i64 (offOf zs i : Nat)) ∧ ∃ p, w' = wr.drewN p := zu7 g _ (ent zs i) zs _ (by rw [HEE.out]; omega) (by omega) HB.out
      have hR : ∀ q, Calls Tryf.prog 7 #[.pointer (some ⟨g, 0, none⟩), .int .i64 ((dirS zs : Int) + 4 * (i : Int) + 2)] (wr.drewN q) fun e w' => e = .returned (.int .i64 (rawOf zs i : Nat)) ∧ ∃ p, w' = (wr.drewN q).drewN p := fun q => zu7 g _ (ent zs i + 2) zs _ (by rw [HEE.out]; omega) (by omega) (HB.out.drewN q)
      have lr : rawOf zs i < 65536 := HB.out.1.u16_lt _
      have lo : offOf zs i < 65536 := HB.out.1.u16_lt _
      have hAN : bits .andNot .i64 (rawOf zs i : Int) 32768 = (lenOf zs i : Int) := i64_andNot_top _ lr
      have hln : lenOf zs i < 32768 := by unfold lenOf; omega
      go_wp2_with fail
      refine hO.mono ?_
      rintro e w5 ⟨rfl, p1, rfl⟩
      go_wp2_with fail
      refine (hR _).mono ?_
      rintro e w6 ⟨rfl, p2, rfl⟩
      clear hO hR
      by_cases c3 : offOf zs i = 0
      · have c3' : ((offOf zs i : Int) == 0) = true := by simp; omega
        by_cases c4 : rawOf zs i = 0
        · have c4' : ((rawOf zs i : Int) != 0) = false := by simp; omega
          have hU' := hU.succ_empty c3 c4
          have hUs' := hUs.skip c3
          have HLV : Hid (live zs (i + 1) = live zs i) := by show live zs i + _ = _; rw [if_pos c3]; rfl
          have HEM : Hid (empties zs (i + 1) = empties zs i + 1) := by show empties zs i + _ = _; rw [if_pos c3]
          have hM' : Marks (wr.drewN (p1 + p2)) w.heap.size us := hM.heap rfl
          clear c3 c4 hM
          go_wp2
          go_roundw
          case rel => exact ⟨i + 1, us, by omega, by go_num, by rw [HLV.out], by rw [HEM.out]; go_num, hU', hUs', hM', below_drewN BX _⟩
          case measure => simp [intOf]; omega
        · have c4' : ((rawOf zs i : Int) != 0) = true := by simp; omega
          have hno : ¬ Valid zs := fun hv => c4 (hv.upto.zero i hlt c3)
          clear c3 c4
          go_wp2
          go_ret
          exact ⟨Tells.no hno, below_drewN BX _⟩
      · have c3' : ((offOf zs i : Int) == 0) = false := by simp; omega
        by_cases c5 : (rowSp zs : Int) ≤ (offOf zs i : Int)
        rotate_left
        · have hno : ¬ Valid zs := fun hv => by have := (hv.upto.fits i hlt c3).1; omega
          clear c3
          go_wp2
          go_ret
          exact ⟨Tells.no hno, below_drewN BX _⟩
        by_cases c6 : (offOf zs i : Int) + (lenOf zs i : Int) ≤ 8188
        rotate_left
        · have hno : ¬ Valid zs := fun hv => by have := (hv.upto.fits i hlt c3).2; omega
          clear c3
          go_wp2
          go_ret
          exact ⟨Tells.no hno, below_drewN BX _⟩
        have HC3 : Hid (¬ offOf zs i = 0) := c3
        have hT := hUs.to
        have hM' : Marks (wr.drewN (p1 + p2)) w.heap.size us := hM.heap rfl
        have BX' : Below w.heap.size w (wr.drewN (p1 + p2)) := below_drewN BX _
        clear c3 hM BX hUs
        go_wp2
        go_loopw [14] (fun kk wk => ∃ (k : Nat) (uk : Nat → Bool), offOf zs i ≤ k ∧ k ≤ offOf zs i + lenOf zs i ∧ kk = .int .i64 k ∧ UsedTo zs i k uk ∧ (∀ m, offOf zs i ≤ m → m < k → ∀ j, j < i → ¬ inRow zs j m) ∧ Marks wk w.heap.size uk ∧ Below w.heap.size w wk) (fun kk _ => offOf zs i + lenOf zs i - (intOf kk).toNat)
        case atStart => exact ⟨offOf zs i, us, Nat.le_refl _, by omega, rfl, hT, fun m h1 h2 => by omega, hM', BX'⟩
        case round =>
          clear hT hM' BX'
          obtain ⟨k, uk, hk1, hk2, rfl, hT, hA, hM, BX⟩ := hrel
          have HA : Hid (∀ m, offOf zs i ≤ m → m < k → ∀ j, j < i → ¬ inRow zs j m) := hA
          have HT : Hid (UsedTo zs i k uk) := hT
          clear hA hT
          by_cases hkl : k < offOf zs i + lenOf zs i
          · have hk8 : k < 8192 := by omega
            have ck := hM.cell k hk8
            have fk := hM.frozen k
            have k8 : (k : Int) < 8192 := by omega
            by_cases hu : uk k = true
            · have hno : ¬ Valid zs := fun hv => by
                rcases (HT.out k).1 hu with ⟨j, hj, hin⟩ | h
                · exact hv.upto.apart j i hj hlt k hin ⟨HC3.out, hk1, hkl⟩
                · omega
              rw [hu] at ck
              clear hu hk8
              go_wp2
              go_ret
              exact ⟨Tells.no hno, BX⟩
            · have hu' : uk k = false := by simpa using hu
              rw [hu'] at ck
              have hM2 := hM.set k hk8
              have hT2 := HT.out.next hk1
              have BX2 := BX.setCell (p := ⟨w.heap.size, k, none⟩) (Nat.le_refl _) (.bool true)
              have hA2 : ∀ m, offOf zs i ≤ m → m < k + 1 → ∀ j, j < i → ¬ inRow zs j m := by
                intro m h1 h2 j hj hin
                by_cases e : m = k
                · subst e; exact hu ((HT.out m).2 (.inl ⟨j, hj, hin⟩))
                · exact HA.out m h1 (by omega) j hj hin
              have HA2 : Hid (∀ m, offOf zs i ≤ m → m < k + 1 → ∀ j, j < i → ¬ inRow zs j m) := hA2
              clear hu hu' hk8 hA2 hM
              go_wp2
              go_roundw
              case rel => exact ⟨k + 1, _, by omega, by omega, by go_num, hT2, HA2.out, hM2, BX2⟩
              case measure => simp [intOf]; omega
          · have hke : k = offOf zs i + lenOf zs i := by omega
            have hU' : Upto zs (i + 1) := hU.succ_row HC3.out (by omega) (by omega) (fun j hj m hin hm => HA.out m hm.2.1 (by have := hm.2.2; omega) j hj hin)
            have hUs' : Used zs (i + 1) uk := UsedTo.done (by rw [← hke]; exact HT.out) HC3.out
            have HLV : Hid (live zs (i + 1) = live zs i + lenOf zs i) := by show live zs i + _ = _; rw [if_neg HC3.out]
            have HEM : Hid (empties zs (i + 1) = empties zs i) := by show empties zs i + _ = _; rw [if_neg HC3.out]; rfl
            clear hke
            go_wp2
            go_roundw
            case rel => exact ⟨i + 1, uk, by omega, by go_num, by rw [HLV.out]; go_num, by rw [HEM.out], hU', hUs', hM, BX⟩
            case measure => simp [intOf]; omega
    · obtain rfl : i = nRows zs := by omega
      have HB : Hid (Blk wr g zs) := HH.out.below BX
      have hO : Calls Tryf.prog 7 #[.pointer (some ⟨g, 0, none⟩), .int .i64 28] wr fun e w' => e = .returned (.int .i64 (u16 zs 28 : Nat)) ∧ ∃ p, w' = wr.drewN p := zu7 g 28 28 zs _ rfl (by omega) HB.out
      have hR : ∀ q, Calls Tryf.prog 7 #[.pointer (some ⟨g, 0, none⟩), .int .i64 30] (wr.drewN q) fun e w' => e = .returned (.int .i64 (u16 zs 30 : Nat)) ∧ ∃ p, w' = (wr.drewN q).drewN p := fun q => zu7 g 30 30 zs _ rfl (by omega) (HB.out.drewN q)
      have HC1 : Hid (((dirS zs : Int) + 4 * (nRows zs : Int)) ≤ (rowSp zs : Int)) := c1
      have HC2 : Hid ((rowSp zs : Int) ≤ 8188) := c2
      go_wp2_with fail
      refine hO.mono ?_
      rintro e w5 ⟨rfl, p1, rfl⟩
      by_cases d1 : u16 zs 28 + rowSp zs + live zs (nRows zs) = 8188
      · have d1' : ((u16 zs 28 : Int) == 8188 - (rowSp zs : Int) - (live zs (nRows zs) : Int)) = true := by simp; omega
        have HD1 : Hid (u16 zs 28 + rowSp zs + live zs (nRows zs) = 8188) := d1
        clear d1
        go_wp2_with fail
        refine (hR _).mono ?_
        rintro e w6 ⟨rfl, p2, rfl⟩
        by_cases d2 : u16 zs 30 = empties zs (nRows zs)
        · have d2' : ((u16 zs 30 : Int) == (empties zs (nRows zs) : Int)) = true := by simp; omega
          have hyes : Valid zs := ⟨by rw [HE.out]; have := HC1.out; omega, by have := HC2.out; omega, hU, HD1.out, d2⟩
          clear d2
          go_wp2
          go_ret
          exact ⟨Tells.yes hyes, below_drewN BX _⟩
        · have d2' : ((u16 zs 30 : Int) == (empties zs (nRows zs) : Int)) = false := by simp; omega
          have hno : ¬ Valid zs := fun hv => d2 hv.empty
          clear d2
          go_wp2
          go_ret
          exact ⟨Tells.no hno, below_drewN BX _⟩
      · have d1' : ((u16 zs 28 : Int) == 8188 - (rowSp zs : Int) - (live zs (nRows zs) : Int)) = false := by simp; omega
        have hno : ¬ Valid zs := fun hv => d1 hv.holes
        clear d1
        go_wp2
        go_ret
        exact ⟨Tells.no hno, below_drewN BX _⟩
end Go.Proofs.Qxb6612825aFmt
