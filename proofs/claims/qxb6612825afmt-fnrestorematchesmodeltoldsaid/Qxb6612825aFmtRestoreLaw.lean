/-
  WHAT THE WALK OF Restore WANTS: clear and copy upon a block, the row given.
-/
import Derived.Test.Qxb6612825aFmtCollect
namespace Go.Proofs.Qxb6612825aFmt
open Go.RowKit Go.Proofs.Qxb6612825aFmt.Big
set_option linter.unusedVariables false

/-- The row given: its bytes lie outside the block g. -/
def RowIs (w : World) (g : Nat) (ra : Option Addr) (rs : List Int) : Prop :=
  (∀ z ∈ rs, (Lit.int .u8 z).wf = true) ∧ (rs = [] ∨ ∃ rb ro, ra = some ⟨rb, ro, none⟩ ∧ rb ≠ g ∧ rb < w.heap.size ∧ ∀ j, j < rs.length → w.cell? ⟨rb, ro + j, none⟩ = some (.int .u8 (rs.getD j 0)))
theorem RowIs.grown {w w' : World} {g : Nat} {ra : Option Addr} {rs : List Int} (h : RowIs w g ra rs) (k : w.grownBy w' (some g)) : RowIs w' g ra rs := by
  obtain ⟨h1, h2⟩ := h
  refine ⟨h1, ?_⟩
  rcases h2 with h2 | ⟨rb, ro, e, hne, hl, hc⟩
  · exact .inl h2
  · exact .inr ⟨rb, ro, e, hne, Nat.lt_of_lt_of_le hl k.size, fun j hj => k.cell (hc j hj) (by simpa using hne)⟩

theorem blit_nil (zs : List Int) (o : Nat) : blit zs o [] = zs := by simp [blit]
theorem wf_zeros (n : Nat) : ∀ z ∈ List.replicate n (0 : Int), (Lit.int .u8 z).wf = true := by
  intro z hz
  rw [List.eq_of_mem_replicate hz]
  decide

/-- 'b[o:]' of a block. -/
theorem slice30l (g o : Nat) (W : World) (h : o < 8192) : (Instr.sliceAt 30 (.pointer (some ⟨g, 0, none⟩)) (some (.int .i64 (o : Int))) none none).run Tryf.prog W = .ok (.slice (some ⟨g, o, none⟩) (8192 - o) (8192 - o)) W := by
  have ha : Tryf.prog.arrayLen 30 = 8192 := by kernel_rfl
  have he : Tryf.prog.elem 30 = 5 := by kernel_rfl
  have hu : Tryf.prog.underlying 30 = some (.array (Tryf.prog.arrayLen 30) (Tryf.prog.elem 30)) := by rw [ha, he]; exact Tryf.underlying30
  rw [run_sliceAt_array_l W 30 ⟨g, 0, none⟩ hu .i64 (o : Int) (by omega) (by rw [ha]; omega), he, ha]
  have h1 : ((o : Int)).toNat = o := by omega
  have h3 : ¬ 8192 = o := by omega
  rw [h1]
  simp only [Tryf.sizeOf5, Result.andThen_ok, slicedAt, if_neg h3, Nat.mul_one, Go.WideShapes.add_plain, Nat.zero_add]

/-- 'copy(b[off:], row)'. -/
theorem wpList_copy_row {ops : Array Oper} {rest : List Oper} {o : Oper} {a : Act} {w : World} {Q : Exit → Act → World → Prop} (hgd : o.guard = none) (d s : Operand)
    (ho : o.op = .call { callee := .builtin .copy, args := #[d, s], argTypes := #[23, 23] })
    (g off dLen dCap : Nat) (hd : a.eval d = .slice (some ⟨g, off, none⟩) dLen dCap) (ra : Option Addr) (sLen sCap : Nat) (hs : a.eval s = .slice ra sLen sCap)
    (zs : List Int) (H : Blk w g zs) (rs : List Int) (hl : rs.length = sLen) (R : RowIs w g ra rs) (hn : rs.length ≤ dLen) (hfit : off + rs.length ≤ 8192)
    (h : ∀ w', Hid (Blk w' g (blit zs off rs)) → Hid (w.grownBy w' (some g)) → wpList Tryf.prog ops Q rest (a.put o.dst (goInt rs.length)) w') : wpList Tryf.prog ops Q (o :: rest) a w := by
  subst hl
  obtain ⟨hw, h2⟩ := R
  rcases h2 with h2 | ⟨rb, ro, e, hne, hlt, hc⟩
  · subst h2
    refine wpList_copy_zero hgd d s ho (some ⟨g, off, none⟩) ra dLen dCap sCap hd hs ?_
    exact h w (by rw [blit_nil]; exact H) (World.grownBy.refl _ _)
  · subst e
    refine wpList_copy_blk hgd d s ho g off dLen dCap hd ⟨rb, ro, none⟩ _ sCap hs zs H rs hw ((Nat.min_eq_left hn).symm) (fun j hj => ?_) hfit h
    rw [Go.WideShapes.add_plain]
    exact hc j hj

/-- 'clear(b[off:off+n])'. -/
theorem wpList_clear_blk {ops : Array Oper} {rest : List Oper} {o : Oper} {a : Act} {w : World} {Q : Exit → Act → World → Prop} (hgd : o.guard = none) (d : Operand)
    (ho : o.op = .call { callee := .builtin .clear, args := #[d], argTypes := #[23] })
    (g off n c : Nat) (hd : a.eval d = .slice (some ⟨g, off, none⟩) n c) (hn : 0 < n)
    (zs : List Int) (H : Blk w g zs) (hfit : off + n ≤ 8192)
    (h : ∀ w', Hid (Blk w' g (blit zs off (List.replicate n 0))) → Hid (w.grownBy w' (some g)) → wpList Tryf.prog ops Q rest (a.put o.dst (.tuple #[])) w') : wpList Tryf.prog ops Q (o :: rest) a w := by
  refine wpList_plain hgd fun K hK => ?_
  have hrun := Go.Lib.run_clear_slice (P := Tryf.prog) w 23 5 o.type (.int .u8 0) Tryf.underlying23 (fun w => Tryf.zeroValue5 w) rfl rfl g off n c hn
    (fun j hj => by rw [H.cell (off + j) (by omega)]; rfl) (fun j hj => H.frozen _)
  unfold Oper.wp
  simp [execOp, ho, resolve, invoke, builtin, hd, hrun, Result.andThen]
  refine hK _ _ ?_
  obtain ⟨hB, t, hg⟩ := H
  have hs := setCells_setRow g t (List.replicate n 0) off zs w hg (by simp [hB.len]; exact hfit)
  rw [List.map_replicate] at hs
  exact h _ ⟨hB.blit (by simpa using hfit) (wf_zeros n), t, hs.1⟩ hs.2

/-- How Restore ends. -/
def Restored (zs : List Int) (s : Nat) (rs : List Int) (g : Nat) (w : World) (e : Ending) (w' : World) : Prop :=
  (e = .returned (.bool false) ∧ freeOf zs < (needOf zs s rs.length : Nat) ∧ Below w.heap.size w w') ∨
  (e = .returned (.bool true) ∧ (needOf zs s rs.length : Int) ≤ freeOf zs ∧ ∃ zs', Placed zs s rs zs' ∧ Blk w' g zs' ∧ w.grownBy w' (some g))
end Go.Proofs.Qxb6612825aFmt
