/-
  RESTORE, PLAINLY: room is made, the directory is widened, the row is placed.
-/
import Derived.Test.Qxb6612825aFmtMoved2
namespace Go.Proofs.Qxb6612825aFmt
open Go.RowKit Go.Proofs.Qxb6612825aFmt.Big

/-- What compact makes of the block. -/
def Compacted (zs zs' : List Int) : Prop := ∃ ds, Order zs ds ∧ zs' = put16 (put16 (moved zs ds ds.length) 18 (endOf ds ds.length : Nat)) 28 0

/-- The bytes that a row of n bytes in slot s wants. -/
def needOf (zs : List Int) (s n : Nat) : Nat := if s < nRows zs then n else n + (s + 1 - nRows zs) * 4
/-- The free bytes. -/
def freeOf (zs : List Int) : Int := (rowSp zs : Int) - (ent zs (nRows zs) : Int) + (u16 zs 28 : Nat)
/-- The empty slots behind it. -/
def emptyOf (zs : List Int) (s : Nat) : Int := if s < nRows zs then (u16 zs 30 : Int) - 1 else (u16 zs 30 : Int) + ((s : Int) - (nRows zs : Int))

/-- zs1 is zs with the room in the gap. -/
structure Room (zs zs1 : List Int) (need : Nat) : Prop where
  blk : IsBlk zs1
  ent : ∀ i, ent zs1 i = ent zs i
  rows : nRows zs1 = nRows zs
  room : Qxb6612825aFmt.ent zs (nRows zs) + need ≤ rowSp zs1
  top : rowSp zs1 ≤ 8188

theorem ent_put16 {zs : List Int} {o : Nat} (v : Int) (i : Nat) (h : o + 1 < 20 ∨ 21 < o) : ent (put16 zs o v) i = ent zs i := by
  unfold ent dirS
  rw [u16_put16_out _ _ _ _ (by omega)]
theorem ent_blit {zs : List Int} {o : Nat} {cs : List Int} (i : Nat) (ho : o + cs.length ≤ zs.length) (h : 21 < o) : ent (blit zs o cs) i = ent zs i := by
  unfold ent dirS
  rw [u16_blit_out ho (by omega)]

theorem freeOf_eq {zs : List Int} (V : Valid zs) : freeOf zs = 8188 - (ent zs (nRows zs) : Int) - (live zs (nRows zs) : Int) := by
  have := V.holes
  unfold freeOf
  omega

theorem room_self {zs : List Int} (hB : IsBlk zs) (V : Valid zs) {need : Nat} (h : (need : Int) ≤ (rowSp zs : Int) - (ent zs (nRows zs) : Int)) : Room zs zs need :=
  ⟨hB, fun _ => rfl, rfl, by omega, V.top⟩

section
variable {zs zs1 : List Int}
theorem compacted_low (hB : IsBlk zs) (V : Valid zs) (h : Compacted zs zs1) : ∀ p, p < 52 → p ≠ 18 → p ≠ 19 → p ≠ 28 → p ≠ 29 → zs1.getD p 0 = zs.getD p 0 := by
  obtain ⟨ds, hO, rfl⟩ := h
  intro p hp h1 h2 h3 h4
  rw [put16_out _ _ _ _ (by omega) (by omega), put16_out _ _ _ _ (by omega) (by omega)]
  exact moved_low hB hO V _ (Nat.le_refl _) p hp
theorem compacted_blk (hB : IsBlk zs) (V : Valid zs) (h : Compacted zs zs1) : IsBlk zs1 := by
  obtain ⟨ds, hO, rfl⟩ := h
  exact ((moved_blk hB hO V _ (Nat.le_refl _)).put16 _ _).put16 _ _
theorem compacted_ent (hB : IsBlk zs) (V : Valid zs) (h : Compacted zs zs1) (i : Nat) : ent zs1 i = ent zs i := by
  have l := compacted_low hB V h
  unfold ent dirS
  rw [u16_congr (l 20 (by omega) (by omega) (by omega) (by omega) (by omega)) (l 21 (by omega) (by omega) (by omega) (by omega) (by omega))]
theorem compacted_rows (hB : IsBlk zs) (V : Valid zs) (h : Compacted zs zs1) : nRows zs1 = nRows zs := by
  have l := compacted_low hB V h
  unfold nRows
  rw [u16_congr (l 16 (by omega) (by omega) (by omega) (by omega) (by omega)) (l 17 (by omega) (by omega) (by omega) (by omega) (by omega))]
theorem compacted_sp (hB : IsBlk zs) (V : Valid zs) (h : Compacted zs zs1) : rowSp zs1 + live zs (nRows zs) = 8188 ∧ u16 zs1 28 = 0 := by
  obtain ⟨ds, hO, rfl⟩ := h
  have hM := moved_blk hB hO V _ (Nat.le_refl ds.length)
  have hM2 := hM.put16 18 (endOf ds ds.length : Nat)
  have ht := hO.total
  have hs := hO.sum_le V (Nat.le_refl ds.length)
  have he : endOf ds ds.length + live zs (nRows zs) = 8188 := by unfold endOf; omega
  constructor
  · unfold rowSp
    rw [u16_put16_out _ _ _ _ (by omega), u16_put16 _ (by rw [hM.len]; omega) (by omega)]
    exact he
  · have := u16_put16 (zs := put16 (moved zs ds ds.length) 18 (endOf ds ds.length : Nat)) (off := 28) 0 (by rw [hM2.len]; omega) (by omega)
    exact this
theorem room_compacted (hB : IsBlk zs) (V : Valid zs) (h : Compacted zs zs1) {need : Nat} (hn : (need : Int) ≤ freeOf zs) : Room zs zs1 need := by
  have h1 := compacted_sp hB V h
  rw [freeOf_eq V] at hn
  exact ⟨compacted_blk hB V h, compacted_ent hB V h, compacted_rows hB V h, by omega, by omega⟩
end

/-- The directory with slot s in it. -/
def widen (zs : List Int) (s : Nat) : List Int :=
  if nRows zs ≤ s then put16 (blit zs (ent zs (nRows zs)) (List.replicate ((s + 1 - nRows zs) * 4) 0)) 16 ((s : Int) + 1) else zs
/-- The row laid, its entry, the row space's start, the empty slots. -/
def laid (zs : List Int) (s : Nat) (rs : List Int) (em : Int) : List Int :=
  put16 (put16 (put16 (put16 (blit zs (rowSp zs - rs.length) rs) (ent zs s) ((rowSp zs - rs.length : Nat) : Int)) (ent zs s + 2) (rs.length : Int)) 18 ((rowSp zs - rs.length : Nat) : Int)) 30 em
/-- What Restore makes of the block where the row fits. -/
def Placed (zs : List Int) (s : Nat) (rs : List Int) (zs' : List Int) : Prop :=
  ∃ zs1, (zs1 = zs ∨ Compacted zs zs1) ∧ Room zs zs1 (needOf zs s rs.length) ∧ zs' = laid (widen zs1 s) s rs (emptyOf zs s)
end Go.Proofs.Qxb6612825aFmt
