/-
  THE BUILT-INS copy AND clear UPON A BLOCK.
-/
import Derived.Test.Qxb6612825aFmtBase2
import Derived.Laws.CopyRow
import Derived.Lib.SliceRun
import Derived.Deep.RegionLaw
namespace Go.Proofs.Qxb6612825aFmt
open Go.RowKit Go.Proofs.Qxb6612825aFmt.Big
set_option linter.unusedVariables false

theorem IsBlk.blit {zs : List Int} (h : IsBlk zs) {o : Nat} {cs : List Int} (ho : o + cs.length ≤ 8192) (hc : ∀ z ∈ cs, (Lit.int .u8 z).wf = true) : IsBlk (blit zs o cs) := by
  refine ⟨by rw [blit_length (by rw [h.len]; exact ho)]; exact h.len, fun z hz => ?_⟩
  unfold Qxb6612825aFmt.blit at hz
  rcases List.mem_append.1 hz with hz | hz
  · rcases List.mem_append.1 hz with hz | hz
    · exact h.wf z (List.mem_of_mem_take hz)
    · exact hc z hz
  · exact h.wf z (List.mem_of_mem_drop hz)

theorem cells_blit (zs : List Int) (o : Nat) (cs : List Int) : ((cellsOf zs).toList.take o ++ cs.map (Value.int .u8) ++ (cellsOf zs).toList.drop (o + (cs.map (Value.int .u8)).length)).toArray = cellsOf (blit zs o cs) := by
  apply Array.ext'
  simp [cellsOf, blit, List.map_drop]

theorem ints_one (cs : List Int) : ∀ v ∈ cs.map (Value.int .u8), v.oneCell' = true := by
  intro v hv
  obtain ⟨z, _, rfl⟩ := List.mem_map.1 hv
  rfl

theorem blk_setRow {w : World} {g : Nat} {zs : List Int} (H : Blk w g zs) {ys : List Int} (hy : IsBlk ys) : Blk (w.setRow g (cellsOf ys)) g ys ∧ w.grownBy (w.setRow g (cellsOf ys)) (some g) := by
  obtain ⟨hB, t, hg⟩ := H
  refine ⟨⟨hy, t, ?_⟩, ⟨rfl, rfl, rfl, by simp, fun k hk hne => ?_⟩⟩
  · simp only [World.setRow, Array.getElem?_modify, if_true, hg]
    rfl
  · have : g ≠ k := fun e => hne (by rw [e])
    simp only [World.setRow, Array.getElem?_modify, this, if_false]

/-- 'copy(b[o:o+n], src)' upon a block: the run. -/
theorem run_copy_blk {w : World} {g o dLen dCap : Nat} {a : Addr} {sLen sCap : Nat} {zs : List Int} (cs : List Int) (ty : TypeId) (H : Blk w g zs) (hn : cs.length = Nat.min sLen dLen)
    (hsrc : ∀ j, j < cs.length → w.cell? (a.add j) = some (.int .u8 (cs.getD j 0))) (hfit : o + cs.length ≤ 8192) :
    (Builtin.copy_ #[23, 23] ty #[.slice (some ⟨g, o, none⟩) dLen dCap, .slice (some a) sLen sCap]).run Tryf.prog w = .ok (goInt cs.length) (w.setRow g (cellsOf (blit zs o cs))) := by
  obtain ⟨hB, t, hg⟩ := H
  have hr := run_copy_row (P := Tryf.prog) w 23 23 ty 5 g o dLen dCap a sLen sCap (cellsOf zs) t (cs.map (Value.int .u8)) Tryf.underlying23 (by kernel_rfl) hg (by simpa using hn)
    (fun j v hj => by
      have hjl : j < cs.length := by
        have := (List.getElem?_eq_some_iff.1 hj).1
        simpa using this
      rw [hsrc j hjl]
      simp [hjl] at hj
      simp [hjl, hj])
    (by simp [size_cellsOf, hB.len]; exact hfit) (ints_one cs)
  rw [cells_blit] at hr
  simpa using hr

theorem step_copy_blk {ops : Array Oper} {o : Oper} {a : Act} {w : World} {K : Act → World → Prop} {Q : Exit → Act → World → Prop} {E : Prop} (hgd : o.guard = none) (d s : Operand)
    (ho : o.op = .call { callee := .builtin .copy, args := #[d, s], argTypes := #[23, 23] })
    (g off dLen dCap : Nat) (hd : a.eval d = .slice (some ⟨g, off, none⟩) dLen dCap) (ad : Addr) (sLen sCap : Nat) (hs : a.eval s = .slice (some ad) sLen sCap)
    (zs : List Int) (H : Blk w g zs) (cs : List Int) (hw : ∀ z ∈ cs, (Lit.int .u8 z).wf = true) (hn : cs.length = Nat.min sLen dLen)
    (hsrc : ∀ j, j < cs.length → w.cell? (ad.add j) = some (.int .u8 (cs.getD j 0))) (hfit : off + cs.length ≤ 8192)
    (h : ∀ w', Hid (Blk w' g (blit zs off cs)) → Hid (w.grownBy w' (some g)) → K (a.put o.dst (goInt cs.length)) w') :
    if Region.wanted o (yielded ops a.tmps) = true then Oper.wp Tryf.prog o a w K Q else E := by
  have hwt : Region.wanted o (yielded ops a.tmps) = true := by simp [Region.wanted, hgd]
  rw [if_pos hwt]
  have hrun := run_copy_blk cs o.type H hn hsrc hfit (dCap := dCap) (sCap := sCap)
  unfold Oper.wp
  simp [execOp, ho, resolve, invoke, builtin, hd, hs, hrun, Result.andThen]
  have hb := blk_setRow H (H.1.blit hfit hw)
  exact h _ hb.1 hb.2

theorem wpList_copy_blk {ops : Array Oper} {rest : List Oper} {o : Oper} {a : Act} {w : World} {Q : Exit → Act → World → Prop} (hgd : o.guard = none) (d s : Operand)
    (ho : o.op = .call { callee := .builtin .copy, args := #[d, s], argTypes := #[23, 23] })
    (g off dLen dCap : Nat) (hd : a.eval d = .slice (some ⟨g, off, none⟩) dLen dCap) (ad : Addr) (sLen sCap : Nat) (hs : a.eval s = .slice (some ad) sLen sCap)
    (zs : List Int) (H : Blk w g zs) (cs : List Int) (hw : ∀ z ∈ cs, (Lit.int .u8 z).wf = true) (hn : cs.length = Nat.min sLen dLen)
    (hsrc : ∀ j, j < cs.length → w.cell? (ad.add j) = some (.int .u8 (cs.getD j 0))) (hfit : off + cs.length ≤ 8192)
    (h : ∀ w', Hid (Blk w' g (blit zs off cs)) → Hid (w.grownBy w' (some g)) → wpList Tryf.prog ops Q rest (a.put o.dst (goInt cs.length)) w') : wpList Tryf.prog ops Q (o :: rest) a w := by
  refine wpList_plain hgd fun K hK => ?_
  have hrun := run_copy_blk cs o.type H hn hsrc hfit (dCap := dCap) (sCap := sCap)
  unfold Oper.wp
  simp [execOp, ho, resolve, invoke, builtin, hd, hs, hrun, Result.andThen]
  have hb := blk_setRow H (H.1.blit hfit hw)
  exact hK _ _ (h _ hb.1 hb.2)

/-- 'copy(b[o:], src)', src without an element: nothing goes over. -/
theorem wpList_copy_zero {ops : Array Oper} {rest : List Oper} {o : Oper} {a : Act} {w : World} {Q : Exit → Act → World → Prop} (hgd : o.guard = none) (d s : Operand)
    (ho : o.op = .call { callee := .builtin .copy, args := #[d, s], argTypes := #[23, 23] })
    (dp sp : Option Addr) (dLen dCap sCap : Nat) (hd : a.eval d = .slice dp dLen dCap) (hs : a.eval s = .slice sp 0 sCap)
    (h : wpList Tryf.prog ops Q rest (a.put o.dst (goInt 0)) w) : wpList Tryf.prog ops Q (o :: rest) a w := by
  refine wpList_plain hgd fun K hK => ?_
  have hrun := run_copy_none (P := Tryf.prog) w 23 23 o.type 5 dp sp dLen dCap 0 sCap Tryf.underlying23 (by kernel_rfl) (by simp)
  unfold Oper.wp
  simp [execOp, ho, resolve, invoke, builtin, hd, hs, hrun, Result.andThen]
  exact hK _ _ h

theorem setCells_setRow (g : Nat) (t : TypeId) : ∀ (cs : List Int) (o : Nat) (zs : List Int) (w : World), w.heap[g]? = some (.cells (cellsOf zs) t (0, 0)) → o + cs.length ≤ zs.length →
    (w.setCells g o (cs.map (Value.int .u8))).heap[g]? = some (.cells (cellsOf (blit zs o cs)) t (0, 0)) ∧ w.grownBy (w.setCells g o (cs.map (Value.int .u8))) (some g)
  | [], o, zs, w, hg, ho => by
    have e : blit zs o [] = zs := by simp [blit]
    rw [e]
    exact ⟨hg, World.grownBy.refl _ _⟩
  | c :: cs, o, zs, w, hg, ho => by
    have hol : o < zs.length := by simp at ho; omega
    have h1 := heap_setCell_same w g o _ t (.int .u8 c) hg
    rw [set_cellsOf] at h1
    obtain ⟨h2, h3⟩ := setCells_setRow g t cs (o + 1) (zs.set o c) _ h1 (by simp at ho ⊢; omega)
    have e : blit (zs.set o c) (o + 1) cs = blit zs o (c :: cs) := by
      unfold blit
      have e1 : (zs.set o c).take (o + 1) = zs.take o ++ [c] := by
        rw [List.take_succ_eq_append_getElem (by simpa using hol), List.take_set_of_le (Nat.le_refl _)]
        simp
      have e2 : (zs.set o c).drop (o + 1 + cs.length) = zs.drop (o + (c :: cs).length) := by
        rw [List.drop_set_of_lt (by omega)]
        congr 1
        simp
        omega
      rw [e1, e2]
      simp
    rw [e] at h2
    exact ⟨h2, grown_trans (grown_setCell w g o _) h3⟩
end Go.Proofs.Qxb6612825aFmt
