/-
  WHAT THE WALK OF compact WANTS OF THE BLOCK WHILE ROWS ARE MOVED.
-/
import Derived.Test.Qxb6612825aFmtCopy
namespace Go.Proofs.Qxb6612825aFmt
open Go.RowKit Go.Proofs.Qxb6612825aFmt.Big

section
variable {zs : List Int} {ds : List Pl}

/-- A row that is moved lies in the row space. -/
theorem Order.at (h : Order zs ds) (V : Valid zs) {k : Nat} (hk : k < ds.length) :
    rowSp zs ≤ (ds.getD k default).2.1 ∧ (ds.getD k default).2.1 + (ds.getD k default).2.2 ≤ 8188 ∧ (ds.getD k default).1 < nRows zs ∧ ent zs (ds.getD k default).1 + 4 ≤ rowSp zs ∧ 52 ≤ ent zs (ds.getD k default).1 := by
  have h1 := h.mem hk
  have h2 := V.upto.fits _ h1.1 h1.2.1
  have h3 := V.dir
  rw [h1.2.2.1, h1.2.2.2]
  unfold ent dirS at *
  refine ⟨h2.1, h2.2, h1.1, by omega, by omega⟩

theorem Order.end_eq (h : Order zs ds) (V : Valid zs) {k : Nat} (hk : k < ds.length) : endOf ds (k + 1) + (ds.getD k default).2.2 = endOf ds k ∧ rowSp zs ≤ endOf ds (k + 1) ∧ endOf ds k ≤ 8188 := by
  have h1 := h.sum_le V (k := k + 1) (by omega)
  have e : sumTo ds (k + 1) = sumTo ds k + (ds.getD k default).2.2 := rfl
  unfold endOf
  omega

theorem wf_cut {xs : List Int} (h : ∀ z ∈ xs, (Lit.int .u8 z).wf = true) (o n : Nat) : ∀ z ∈ cut xs o n, (Lit.int .u8 z).wf = true := fun z hz => h z (List.mem_of_mem_drop (List.mem_of_mem_take hz))

theorem moved_blk (hB : IsBlk zs) (h : Order zs ds) (V : Valid zs) : ∀ k, k ≤ ds.length → IsBlk (moved zs ds k) := by
  intro k
  induction k with
  | zero => intro _; exact hB
  | succ k ih =>
    intro hk
    have hk' : k < ds.length := by omega
    have i1 := ih (by omega)
    have h1 := h.at V hk'
    have h2 := h.end_eq V hk'
    have hl : (cut (moved zs ds k) (ds.getD k default).2.1 (ds.getD k default).2.2).length = (ds.getD k default).2.2 := cut_length (by rw [i1.len]; omega)
    exact (i1.blit (by rw [hl]; omega) (wf_cut i1.wf _ _)).put16 _ _

/-- Below the directory nothing turns. -/
theorem moved_low (hB : IsBlk zs) (h : Order zs ds) (V : Valid zs) : ∀ k, k ≤ ds.length → ∀ p, p < 52 → (moved zs ds k).getD p 0 = zs.getD p 0 := by
  intro k
  induction k with
  | zero => intro _ p _; rfl
  | succ k ih =>
    intro hk p hp
    have hk' : k < ds.length := by omega
    have i1 := moved_blk hB h V k (by omega)
    have h1 := h.at V hk'
    have h2 := h.end_eq V hk'
    have hl : (cut (moved zs ds k) (ds.getD k default).2.1 (ds.getD k default).2.2).length = (ds.getD k default).2.2 := cut_length (by rw [i1.len]; omega)
    show (put16 _ _ _).getD p 0 = _
    rw [put16_out _ _ _ _ (by omega) (by omega), blit_out (by rw [hl, i1.len]; omega) (by omega)]
    exact ih (by omega) p hp

theorem moved_ent (hB : IsBlk zs) (h : Order zs ds) (V : Valid zs) {k : Nat} (hk : k ≤ ds.length) (i : Nat) : ent (moved zs ds k) i = ent zs i := by
  unfold ent dirS
  rw [u16_congr (moved_low hB h V k hk 20 (by omega)) (moved_low hB h V k hk 21 (by omega))]
end
end Go.Proofs.Qxb6612825aFmt
