/-
  THE SMALL READERS OF A BLOCK: u16, Rows, TxnSlots, txnSlot, entry, dirEnd, gap, Free, rowEntry; zzU16, zzDirStart.
-/
import Derived.Test.Qxb6612825aFmtRows
import Derived.Test.Qxb6612825aFmtPlain
import Derived.Test.Qxb6612825aFmtShelf
import Derived.WalkSpells
import Derived.WalkLawsBesides
import Derived.Deep.RegionWith
import Derived.RegionTactic
import Derived.Deep.QuietTactic
import Derived.BigQuiet
import Derived.WalkSmall
import Derived.Lib.EndianBits
namespace Go.Proofs.Qxb6612825aFmt
open Go.RowKit Go.Proofs.Qxb6612825aFmt.Big
set_option linter.unusedVariables false

/-- Block g of the world holds the data block zs. -/
def Blk (w : World) (g : Nat) (zs : List Int) : Prop := IsBlk zs ∧ ∃ t, w.heap[g]? = some (.cells (cellsOf zs) t (0, 0))

theorem Blk.lt {w : World} {g : Nat} {zs : List Int} (h : Blk w g zs) : g < w.heap.size := by
  obtain ⟨_, t, hg⟩ := h
  exact lt_of_block hg
theorem Blk.cell {w : World} {g : Nat} {zs : List Int} (h : Blk w g zs) (i : Nat) (hi : i < 8192) : w.cell? ⟨g, i, none⟩ = some (.int .u8 (zs.getD i 0)) := by
  obtain ⟨hb, t, hg⟩ := h
  have hl := hb.len
  rw [cell_of_row w g i _ t (0, 0) hg]
  simp [cellsOf, hl, hi]
theorem Blk.frozen {w : World} {g : Nat} {zs : List Int} (h : Blk w g zs) (i : Nat) : w.frozen? ⟨g, i, none⟩ = false := by
  obtain ⟨_, t, hg⟩ := h
  exact frozen_of_row _ _ _ _ _ hg
theorem Blk.heap {w w' : World} {g : Nat} {zs : List Int} (h : Blk w g zs) (e : w'.heap[g]? = w.heap[g]?) : Blk w' g zs := by
  obtain ⟨hb, t, hg⟩ := h
  exact ⟨hb, t, e.trans hg⟩
theorem Blk.below {w w' : World} {g : Nat} {zs : List Int} (h : Blk w g zs) (b : Below w.heap.size w w') : Blk w' g zs := h.heap (b.block g h.lt)

set_option maxHeartbeats 400000 in
/-- (*Block).u16 -/
theorem u18 (g : Nat) (off : Int) (n : Nat) (zs : List Int) (w : World) (hn : off = (n : Int)) (hb : n + 2 ≤ 8192) (H : Blk w g zs) :
    Calls Tryf.prog 18 #[.pointer (some ⟨g, 0, none⟩), .int .i64 off] w fun e w' => e = .returned (.int .i64 (u16 zs n : Nat)) ∧ Below w.heap.size w w' := by
  subst hn
  have hv : Lib.beZ ((zs.drop n).take 2) = ((u16 zs n : Nat) : Int) := by
    have h2 : (zs.drop n).take 2 = [zs.getD n 0, zs.getD (n + 1) 0] := by
      have hl := H.1.len
      have e0 : zs.getD n 0 = zs[n] := by simp [(by omega : n < zs.length)]
      have e1 : zs.getD (n + 1) 0 = zs[n + 1] := by simp [(by omega : n + 1 < zs.length)]
      rw [List.drop_eq_getElem_cons (by omega : n < zs.length), List.drop_eq_getElem_cons (by omega : n + 1 < zs.length), e0, e1]
      rfl
    rw [h2]
    have a := H.1.cast n
    have b := H.1.cast (n + 1)
    simp only [Lib.beZ, Lib.beFromZ, u16]
    omega
  have hlt := H.1.u16_lt n
  have hC : ∀ W : World, W.heap = w.heap → Calls Tryf.prog 26 #[.agg #[], .slice (some ⟨g, n, none⟩) (8192 - n) (8192 - n)] W fun e w' => e = .returned (.int .u16 ((u16 zs n : Nat) : Int)) ∧ Below W.heap.size W w' := by
    intro W hW
    rw [← hv]
    have hl := H.1.len
    refine Tryf.binary_BE_Uint16_z ⟨g, n, none⟩ (8192 - n) (8192 - n) (zs.drop n) W (by omega) (by simp; omega) (fun i hi => ?_) (fun z hz => H.1.wf z (List.mem_of_mem_drop hz))
    have hi' : n + i < zs.length := by simp at hi; omega
    have H' : Blk W g zs := H.heap (by rw [hW])
    rw [Go.WideShapes.add_plain, H'.cell (n + i) (by omega)]
    simp
  clear H hv
  generalize u16 zs n = v at *
  have hwr : IntKind.i64.wrap (v : Int) = (v : Int) := by rw [IntKind.wrap_i64]; omega
  have h1 : (0 : Int) ≤ (n : Int) := by omega
  have h2 : (n : Int) ≤ 8192 := by omega
  have h3 : (n : Int) < 8192 := by omega
  have h4 : ¬ 8192 = n := by omega
  go_enter Tryf.func18, Tryf.ntmps18
  go_wp2
  go_region_with (go_at_call 26; refine (hC _ (by rfl)).mono ?_; rintro e w' ⟨rfl, hb⟩)
  all_goals
    go_wp2
    go_ret
    exact ⟨rfl, (Below.refl _ _).drew.trans hb⟩

set_option maxHeartbeats 400000 in
/-- (*Block).Rows -/
theorem rows17 (g : Nat) (zs : List Int) (w : World) (H : Blk w g zs) :
    Calls Tryf.prog 17 #[.pointer (some ⟨g, 0, none⟩)] w fun e w' => e = .returned (.int .i64 (nRows zs : Nat)) ∧ Below w.heap.size w w' := by
  have hC := u18 g 16 16 zs w rfl (by omega) H
  clear H
  go_enter Tryf.func17, Tryf.ntmps17
  go_wp2_with (go_at_call 18; refine hC.mono ?_; rintro e w' ⟨rfl, hb⟩)
  go_ret
  exact ⟨rfl, hb⟩
set_option maxHeartbeats 400000 in
/-- (*Block).TxnSlots -/
theorem txns33 (g : Nat) (zs : List Int) (w : World) (H : Blk w g zs) :
    Calls Tryf.prog 33 #[.pointer (some ⟨g, 0, none⟩)] w fun e w' => e = .returned (.int .i64 (u16 zs 20 : Nat)) ∧ Below w.heap.size w w' := by
  have hC := u18 g 20 20 zs w rfl (by omega) H
  clear H
  go_enter Tryf.func33, Tryf.ntmps33
  go_wp2_with (go_at_call 18; refine hC.mono ?_; rintro e w' ⟨rfl, hb⟩)
  go_ret
  exact ⟨rfl, hb⟩
/-- txnSlot -/
theorem txn32 (i : Nat) (w : World) (hi : i < 65536) :
    Calls Tryf.prog 32 #[.int .i64 (i : Int)] w fun e w' => e = .returned (.int .i64 (52 + (i : Int) * 24)) ∧ w = w' := by
  go_enter Tryf.func32, Tryf.ntmps32
  go_wp2
  go_ret
  exact ⟨rfl, rfl⟩
theorem ret_int {k : IntKind} {a b : Int} (h : a = b) : Ending.returned (.int k a) = .returned (.int k b) := by rw [h]
set_option maxHeartbeats 400000 in
/-- (*Block).entry -/
theorem entry27 (g : Nat) (slot : Int) (i : Nat) (zs : List Int) (w : World) (hs : slot = (i : Int)) (hi : i ≤ 70000) (H : Blk w g zs) :
    Calls Tryf.prog 27 #[.pointer (some ⟨g, 0, none⟩), .int .i64 slot] w fun e w' => e = .returned (.int .i64 (ent zs i : Nat)) ∧ Below w.heap.size w w' := by
  subst hs
  have hC := txns33 g zs w H
  have hlt := H.1.u16_lt 20
  have HE : Hid (ent zs i = 52 + 24 * u16 zs 20 + 4 * i) := rfl
  clear H
  generalize u16 zs 20 = t at *
  go_enter Tryf.func27, Tryf.ntmps27
  go_wp2_with (first | (go_at_call 33; refine hC.mono ?_; rintro e w' ⟨rfl, hb⟩) | (go_at_call 32; refine (txn32 _ _ (by omega)).mono ?_; rintro e w'' ⟨rfl, rfl⟩))
  go_ret
  exact ⟨ret_int (by rw [HE.out]; omega), hb⟩
set_option maxHeartbeats 400000 in
/-- (*Block).dirEnd -/
theorem dirEnd23 (g : Nat) (zs : List Int) (w : World) (H : Blk w g zs) :
    Calls Tryf.prog 23 #[.pointer (some ⟨g, 0, none⟩)] w fun e w' => e = .returned (.int .i64 (ent zs (nRows zs) : Nat)) ∧ Below w.heap.size w w' := by
  have hC := rows17 g zs w H
  have hE := fun w' (hb : Below w.heap.size w w') => entry27 g _ (nRows zs) zs w' rfl (by have := H.1.u16_lt 16; unfold nRows; omega) (H.below hb)
  clear H
  go_enter Tryf.func23, Tryf.ntmps23
  go_wp2_with (first | (go_at_call 17; refine hC.mono ?_; rintro e w1 ⟨rfl, hb⟩) | (go_at_call 27; refine (hE _ hb).mono ?_; rintro e w2 ⟨rfl, hb2⟩))
  go_ret
  exact ⟨rfl, hb.trans (hb2.mono hb.size)⟩
set_option maxHeartbeats 400000 in
/-- (*Block).gap -/
theorem gap21 (g : Nat) (zs : List Int) (w : World) (H : Blk w g zs) :
    Calls Tryf.prog 21 #[.pointer (some ⟨g, 0, none⟩)] w fun e w' => e = .returned (.int .i64 ((rowSp zs : Int) - (ent zs (nRows zs) : Int))) ∧ Below w.heap.size w w' := by
  have hC := u18 g 18 18 zs w rfl (by omega) H
  have hE := fun w' (hb : Below w.heap.size w w') => dirEnd23 g zs w' (H.below hb)
  have l1 := H.1.u16_lt 18
  have l2 := H.1.u16_lt 16
  have l3 := H.1.u16_lt 20
  have l4 : ent zs (nRows zs) ≤ 2000000 := by unfold ent dirS nRows; omega
  have HR : Hid (rowSp zs = u16 zs 18) := rfl
  clear H
  generalize u16 zs 18 = a at *
  generalize ent zs (nRows zs) = b at *
  go_enter Tryf.func21, Tryf.ntmps21
  go_wp2_with (first | (go_at_call 18; refine hC.mono ?_; rintro e w1 ⟨rfl, hb⟩) | (go_at_call 23; refine (hE _ hb).mono ?_; rintro e w2 ⟨rfl, hb2⟩))
  go_ret
  exact ⟨ret_int (by rw [HR.out]), hb.trans (hb2.mono hb.size)⟩
set_option maxHeartbeats 400000 in
/-- (*Block).Free -/
theorem free13 (g : Nat) (zs : List Int) (w : World) (H : Blk w g zs) :
    Calls Tryf.prog 13 #[.pointer (some ⟨g, 0, none⟩)] w fun e w' => e = .returned (.int .i64 ((rowSp zs : Int) - (ent zs (nRows zs) : Int) + (u16 zs 28 : Nat))) ∧ Below w.heap.size w w' := by
  have hC := gap21 g zs w H
  have hE := fun w' (hb : Below w.heap.size w w') => u18 g 28 28 zs w' rfl (by omega) (H.below hb)
  have l1 : rowSp zs < 65536 := H.1.u16_lt 18
  have l2 := H.1.u16_lt 16
  have l3 := H.1.u16_lt 20
  have l5 := H.1.u16_lt 28
  have l4 : ent zs (nRows zs) ≤ 2000000 := by unfold ent dirS nRows; omega
  clear H
  generalize u16 zs 28 = a at *
  generalize ent zs (nRows zs) = b at *
  generalize rowSp zs = c at *
  go_enter Tryf.func13, Tryf.ntmps13
  go_wp2_with (first | (go_at_call 21; refine hC.mono ?_; rintro e w1 ⟨rfl, hb⟩) | (go_at_call 18; refine (hE _ hb).mono ?_; rintro e w2 ⟨rfl, hb2⟩))
  go_ret
  exact ⟨rfl, hb.trans (hb2.mono hb.size)⟩
end Go.Proofs.Qxb6612825aFmt
