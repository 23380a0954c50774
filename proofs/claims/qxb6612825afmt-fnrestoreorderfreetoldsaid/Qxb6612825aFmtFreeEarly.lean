/-
  FnRestoreOrderFree, WALKED: where it answers before it tries.
-/
import Derived.Test.Qxb6612825aFmtModelWalk
namespace Go.Proofs.Qxb6612825aFmt
open Go.RowKit Go.Proofs.Qxb6612825aFmt.Big
set_option linter.unusedVariables false

/-- All that FnRestoreOrderFree asks before it tries. -/
def Road (zs : List Int) (s t : Int) (L M : Nat) : Prop :=
  L ≤ 262144 ∧ M ≤ 262144 ∧ 0 ≤ s ∧ s ≤ 65536 ∧ 0 ≤ t ∧ t ≤ 65536 ∧ s ≠ t ∧ Valid zs ∧ NoRow zs s.toNat ∧ NoRow zs t.toNat

set_option maxRecDepth 100000 in
set_option maxHeartbeats 4000000 in
theorem order4Z (zs : List Int) (s t : Int) (ra rb : Option Addr) (cap cap' L M : Nat) (w : World) (hB : IsBlk zs) (hno : ¬ Road zs s t L M) :
    Calls Tryf.prog 4 #[.agg (cellsOf zs), .int .i64 s, .slice ra L cap, .int .i64 t, .slice rb M cap'] w fun e w' => e = .returned (.bool true) ∧ Below w.heap.size w w' := by
  have HB : Hid (IsBlk zs) := hB
  have HNo : Hid (¬ Road zs s t L M) := hno
  have hzl : zs.length = 8192 := hB.len
  clear hB hno
  go_enter Tryf.func4, Tryf.ntmps4
  go_wp2_with (refine at_op (.load 22 (.tmp 5)) rfl ?_; refine wpList_load rfl 22 (.tmp 5) rfl Tryf.underlying22 info22 w.heap.size rfl zs hzl 22 (heap_alloc_new _ _) ?_)
  have B0 : Below w.heap.size w (w.alloc (.cells (cellsOf zs) 22)) := (Below.refl _ _).alloc (Nat.le_refl _) _
  have K0 : Hid (Blk (w.alloc (.cells (cellsOf zs) 22)) w.heap.size zs) := blk_new HB.out 22
  refine (bytes16 zs s t ra rb L M cap cap' _).mono ?_
  rintro e w1 ⟨rfl, B1'⟩
  have B1 := B0.trans (B1'.mono B0.size)
  have K1 : Hid (Blk w1 w.heap.size zs) := K0.out.below B1'
  clear B0 K0 B1'
  by_cases hLM : L + M ≤ 1048576
  rotate_left
  · rw [decide_eq_false hLM]
    go_wp2
    go_ret
    exact ⟨rfl, B1⟩
  rw [decide_eq_true hLM]
  by_cases hL : L ≤ 262144
  rotate_left
  · have h2 : (262144 : Int) < (L : Int) := by omega
    go_wp2
    go_ret
    exact ⟨rfl, B1⟩
  have hLI : (L : Int) ≤ 262144 := by omega
  have HL : Hid (L ≤ 262144) := hL
  by_cases hM : M ≤ 262144
  rotate_left
  · have h2 : (262144 : Int) < (M : Int) := by omega
    go_wp2
    go_ret
    exact ⟨rfl, B1⟩
  have hMI : (M : Int) ≤ 262144 := by omega
  have HM : Hid (M ≤ 262144) := hM
  clear hL hM hLM
  by_cases hs0 : 0 ≤ s
  rotate_left
  · have h2 : s < 0 := by omega
    go_wp2
    go_ret
    exact ⟨rfl, B1⟩
  by_cases hs1 : s ≤ 65536
  rotate_left
  · have h2 : 65536 < s := by omega
    go_wp2
    go_ret
    exact ⟨rfl, B1⟩
  by_cases ht0 : 0 ≤ t
  rotate_left
  · have h2 : t < 0 := by omega
    go_wp2
    go_ret
    exact ⟨rfl, B1⟩
  by_cases ht1 : t ≤ 65536
  rotate_left
  · have h2 : 65536 < t := by omega
    go_wp2
    go_ret
    exact ⟨rfl, B1⟩
  by_cases hst : s = t
  · subst hst
    go_wp2
    go_ret
    exact ⟨rfl, B1⟩
  obtain ⟨a, rfl⟩ : ∃ a : Nat, s = (a : Int) := ⟨s.toNat, by omega⟩
  obtain ⟨b, rfl⟩ : ∃ b : Nat, t = (b : Int) := ⟨t.toNat, by omega⟩
  have hstI : ((a : Int) == (b : Int)) = false := by simp; omega
  have HRd : Hid (Valid zs → NoRow zs a → ¬ NoRow zs b) := fun hv h1 h2 => HNo.out ⟨HL.out, HM.out, hs0, hs1, ht0, ht1, hst, hv, h1, h2⟩
  clear HNo hst
  go_wp2_with fail
  refine (valid6 _ zs w1 K1.out).mono ?_
  rintro e w2 ⟨⟨v, rfl, hV⟩, B2'⟩
  have B2 := B1.trans (B2'.mono B1.size)
  have K2 : Hid (Blk w2 w.heap.size zs) := K1.out.below B2'
  have HVb : Hid (v = true ↔ Valid zs) := hV
  clear B1 K1 B2' hV
  cases v
  · go_wp2
    go_ret
    exact ⟨rfl, B2⟩
  have HV : Hid (Valid zs) := HVb.out.1 rfl
  clear HVb
  have l16 : nRows zs < 65536 := HB.out.u16_lt 16
  have hdir : ent zs (nRows zs) ≤ rowSp zs := HV.out.dir
  have htop : rowSp zs ≤ 8188 := HV.out.top
  go_wp2_with fail
  refine (zu7 _ 16 16 zs w2 rfl (by omega) K2.out).mono ?_
  rintro e w3 ⟨rfl, q3, rfl⟩
  rw [show u16 zs 16 = nRows zs from rfl]
  have B3 := below_drewN B2 q3
  have K3 : Hid (Blk (w2.drewN q3) w.heap.size zs) := K2.out.drewN q3
  generalize w2.drewN q3 = w3 at *
  clear B2 K2
  have HRd' : Hid (NoRow zs a → ¬ NoRow zs b) := HRd.out HV.out
  clear HRd
  by_cases han : a < nRows zs
  · have han' : (a : Int) < (nRows zs : Int) := by omega
    have hea : ent zs a + 4 ≤ ent zs (nRows zs) := ent_lt han
    go_wp2_with fail
    refine (empty8 _ (a : Int) a zs w3 rfl (by omega) K3.out).mono ?_
    rintro e w4 ⟨rfl, qa, rfl⟩
    by_cases hem : offOf zs a = 0
    rotate_left
    · rw [show emptyB zs a = false from decide_eq_false hem]
      go_wp2
      go_ret
      exact ⟨rfl, below_drewN B3 _⟩
    rw [show emptyB zs a = true from decide_eq_true hem]
    have HNb : Hid (¬ NoRow zs b) := HRd'.out fun _ => hem
    clear hem HRd' hea
    by_cases hbn : b < nRows zs
    · have hbn' : (b : Int) < (nRows zs : Int) := by omega
      have heb : ent zs b + 4 ≤ ent zs (nRows zs) := ent_lt hbn
      go_wp2_with fail
      refine (empty8 _ (b : Int) b zs _ rfl (by omega) (K3.out.drewN _)).mono ?_
      rintro e w4 ⟨rfl, qb, rfl⟩
      by_cases hem : offOf zs b = 0
      · exact absurd (fun _ => hem) HNb.out
      rw [show emptyB zs b = false from decide_eq_false hem]
      go_wp2
      go_ret
      exact ⟨rfl, below_drewN B3 _⟩
    · exact absurd (fun h => absurd h hbn) HNb.out
  · have han' : (nRows zs : Int) ≤ (a : Int) := by omega
    have HNb : Hid (¬ NoRow zs b) := HRd'.out fun h => absurd h han
    clear HRd'
    by_cases hbn : b < nRows zs
    · have hbn' : (b : Int) < (nRows zs : Int) := by omega
      have heb : ent zs b + 4 ≤ ent zs (nRows zs) := ent_lt hbn
      go_wp2_with fail
      refine (empty8 _ (b : Int) b zs _ rfl (by omega) K3.out).mono ?_
      rintro e w4 ⟨rfl, qb, rfl⟩
      by_cases hem : offOf zs b = 0
      · exact absurd (fun _ => hem) HNb.out
      rw [show emptyB zs b = false from decide_eq_false hem]
      go_wp2
      go_ret
      exact ⟨rfl, below_drewN B3 _⟩
    · exact absurd (fun h => absurd h hbn) HNb.out
end Go.Proofs.Qxb6612825aFmt
