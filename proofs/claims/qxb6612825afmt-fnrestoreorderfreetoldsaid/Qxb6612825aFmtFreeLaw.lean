/-
  FnRestoreOrderFree, WALKED: what its six walks share.
-/
import Derived.Test.Qxb6612825aFmtModelWalk
import Derived.Test.Qxb6612825aFmtFree
namespace Go.Proofs.Qxb6612825aFmt
open Go.RowKit Go.Proofs.Qxb6612825aFmt.Big
set_option linter.unusedVariables false

/-- Does the row fit? -/
def Fits (zs : List Int) (s n : Nat) : Bool := decide ((needOf zs s n : Int) ≤ freeOf zs)
/-- What Restore leaves, whether the row fits or not. -/
def After (zs : List Int) (s : Nat) (rs : List Int) (zs' : List Int) : Prop := (Fits zs s rs.length = true → Done zs s rs zs') ∧ (Fits zs s rs.length = false → zs' = zs)

theorem After.valid {zs zs' rs : List Int} {s : Nat} (h : After zs s rs zs') (V : Valid zs) : Valid zs' := by
  cases hf : Fits zs s rs.length
  · rw [h.2 hf]; exact V
  · exact (h.1 hf).valid
theorem After.other {zs zs' rs : List Int} {s t : Nat} (h : After zs s rs zs') (hst : s ≠ t) (h0 : NoRow zs t) : NoRow zs' t := by
  cases hf : Fits zs s rs.length
  · rw [h.2 hf]; exact h0
  · exact (h.1 hf).other hst h0

theorem restoreB (g s : Nat) (ra : Option Addr) (cap : Nat) (rs : List Int) (zs : List Int) (w : World) (V : Valid zs) (hs : s ≤ 65536) (h0 : NoRow zs s) (hL : rs.length ≤ 524288) (H : Blk w g zs) (R : RowIs w g ra rs) :
    Calls Tryf.prog 10 #[.pointer (some ⟨g, 0, none⟩), .int .i64 (s : Int), .slice ra rs.length cap] w fun e w' => e = .returned (.bool (Fits zs s rs.length)) ∧ ∃ zs', After zs s rs zs' ∧ Blk w' g zs' ∧ w.grownBy w' (some g) := by
  refine (restore10 g s ra cap rs zs w V hs h0 hL H R).mono ?_
  rintro e w' (⟨rfl, hlt, B⟩ | ⟨rfl, hle, zs', hP, K, r⟩)
  · have hf : Fits zs s rs.length = false := decide_eq_false (by omega)
    rw [hf]
    exact ⟨rfl, zs, ⟨fun h => (by rw [hf] at h; cases h), fun _ => rfl⟩, H.below B, below_grown B⟩
  · have hf : Fits zs s rs.length = true := decide_eq_true hle
    rw [hf]
    exact ⟨rfl, zs', ⟨fun _ => placed_done H.1 V h0 R.1 hP, fun h => (by rw [hf] at h; cases h)⟩, K, r⟩

/-- Both fit, one behind the other, exactly where both together do. -/
theorem fits_both {zs xa r1 : List Int} {s t m : Nat} (hst : s ≠ t) (h : After zs s r1 xa) : (Fits zs s r1.length && Fits xa t m) = decide (((r1.length + m + (max s t + 1 - nRows zs) * 4 : Nat) : Int) ≤ freeOf zs) := by
  cases hf : Fits zs s r1.length
  · have h1 := need_le zs s t r1.length m
    have h2 : ¬ (needOf zs s r1.length : Int) ≤ freeOf zs := of_decide_eq_false hf
    rw [Bool.false_and, decide_eq_false (by omega)]
  · have d := h.1 hf
    have h1 := needs (m := m) hst d rfl
    have h2 := d.free
    rw [Bool.true_and]
    unfold Fits
    rw [h2]
    by_cases hc : ((r1.length + m + (max s t + 1 - nRows zs) * 4 : Nat) : Int) ≤ freeOf zs
    · rw [decide_eq_true hc, decide_eq_true (by omega)]
    · rw [decide_eq_false hc, decide_eq_false (by omega)]
theorem fits_both' {zs ya r2 : List Int} {s t m : Nat} (hst : s ≠ t) (h : After zs t r2 ya) : (Fits zs t r2.length && Fits ya s m) = decide (((m + r2.length + (max s t + 1 - nRows zs) * 4 : Nat) : Int) ≤ freeOf zs) := by
  rw [fits_both (m := m) (Ne.symm hst) h]
  have e : r2.length + m + (max t s + 1 - nRows zs) * 4 = m + r2.length + (max s t + 1 - nRows zs) * 4 := by omega
  rw [e]
end Go.Proofs.Qxb6612825aFmt
