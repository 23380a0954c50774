/-
  TWO RESTORES IN EITHER ORDER, plainly.
-/
import Derived.Test.Qxb6612825aFmtLaid
namespace Go.Proofs.Qxb6612825aFmt
open Go.RowKit Go.Proofs.Qxb6612825aFmt.Big
set_option linter.unusedVariables false

theorem SlotSame.symm {xs ys : List Int} {i : Nat} (h : SlotSame xs ys i) : SlotSame ys xs i := by
  rcases h with h | ⟨h1, h2, h3, h4⟩
  · exact .inl ⟨h.2, h.1⟩
  · refine .inr ⟨h2, h1, h3.symm, fun k hk => (h4 k ?_).symm⟩
    unfold lenOf at *
    rw [h3]
    exact hk
theorem SlotSame.trans {xs ys zs : List Int} {i : Nat} (h : SlotSame xs ys i) (k : SlotSame ys zs i) : SlotSame xs zs i := by
  rcases h with h | ⟨h1, h2, h3, h4⟩
  · rcases k with k | ⟨k1, _⟩
    · exact .inl ⟨h.1, k.2⟩
    · exact absurd h.2 k1
  · rcases k with k | ⟨k1, k2, k3, k4⟩
    · exact absurd k.1 h2
    · refine .inr ⟨h1, k2, h3.trans k3, fun m hm => (h4 m hm).trans (k4 m ?_)⟩
      unfold lenOf at *
      rw [← h3]
      exact hm
theorem HdrSame.symm {xs ys : List Int} (hd : dirS ys = dirS xs) (h : HdrSame xs ys) : HdrSame ys xs :=
  ⟨fun k hk h1 h2 => (h.head k (by rw [← hd]; exact hk) h1 h2).symm, fun k h1 h2 => (h.tail k h1 h2).symm⟩
theorem HdrSame.trans {xs ys zs : List Int} (hd : dirS ys = dirS xs) (h : HdrSame xs ys) (k : HdrSame ys zs) : HdrSame xs zs :=
  ⟨fun m hm h1 h2 => (h.head m hm h1 h2).trans (k.head m (by rw [hd]; exact hm) h1 h2), fun m h1 h2 => (h.tail m h1 h2).trans (k.tail m h1 h2)⟩

theorem Done.dirS {zs zs' rs : List Int} {s : Nat} (d : Done zs s rs zs') : dirS zs' = dirS zs := by
  have := d.ent 0
  unfold Qxb6612825aFmt.ent at this
  omega
/-- Behind the first, the other slot is still empty, if it is one. -/
theorem Done.other {zs zs' rs : List Int} {s t : Nat} (d : Done zs s rs zs') (hst : s ≠ t) (h : t < nRows zs → offOf zs t = 0) : t < nRows zs' → offOf zs' t = 0 := by
  intro ht
  by_cases hn : t < nRows zs
  · rcases d.old t hn (Ne.symm hst) with k | k
    · exact k.2
    · exact absurd (h hn) k.1
  · have hr := d.rows
    exact d.new t (by omega) (by omega)

/-- The row in its slot reads the same wherever it was laid. -/
theorem same_row {xs ys zs zs' rs : List Int} {s : Nat} (d : Done xs s rs zs) (e : Done ys s rs zs') : SlotSame zs zs' s := by
  have h1 := d.raw
  have h2 := e.raw
  refine .inr ⟨d.off, e.off, by rw [h1, h2], fun k hk => ?_⟩
  have hk' : k < rs.length := by
    have := d.short
    unfold lenOf at hk
    rw [h1] at hk
    omega
  rw [d.row k hk', e.row k hk']

/-- WHAT BOTH ORDERS LEAVE. -/
structure Agree (zs : List Int) (s t : Nat) (xs ys : List Int) : Prop where
  vx : Valid xs
  vy : Valid ys
  bx : IsBlk xs
  byy : IsBlk ys
  hdr : HdrSame xs ys
  rx : nRows xs = max (nRows zs) (max s t + 1)
  ry : nRows ys = max (nRows zs) (max s t + 1)
  slot : ∀ i, i < nRows xs → SlotSame xs ys i
  ex : ∀ i, ent xs i = ent zs i
  ey : ∀ i, ent ys i = ent zs i

theorem both {zs xa xs ya ys r1 r2 : List Int} {s t : Nat} (hst : s ≠ t) (a1 : Done zs s r1 xa) (a2 : Done xa t r2 xs) (b1 : Done zs t r2 ya) (b2 : Done ya s r1 ys) : Agree zs s t xs ys := by
  have ra1 := a1.rows
  have ra2 := a2.rows
  have rb1 := b1.rows
  have rb2 := b2.rows
  refine ⟨a2.valid, b2.valid, a2.blk, b2.blk, ?_, by omega, by omega, fun i hi => ?_, fun i => (a2.ent i).trans (a1.ent i), fun i => (b2.ent i).trans (b1.ent i)⟩
  · have hx : HdrSame zs xs := HdrSame.trans a1.dirS a1.hdr a2.hdr
    have hy : HdrSame zs ys := HdrSame.trans b1.dirS b1.hdr b2.hdr
    have dx : dirS xs = dirS zs := a2.dirS.trans a1.dirS
    exact HdrSame.trans dx.symm (hx.symm dx) hy
  · by_cases h1 : i = s
    · subst h1
      exact (a2.old i (by omega) hst).symm.trans (same_row a1 b2)
    · by_cases h2 : i = t
      · subst h2
        exact (same_row a2 b1).trans (b2.old i (by omega) h1)
      · by_cases hn : i < nRows zs
        · have x1 := (a1.old i hn h1).trans (a2.old i (by omega) h2)
          have x2 := (b1.old i hn h2).trans (b2.old i (by omega) h1)
          exact x1.symm.trans x2
        · refine .inl ⟨?_, ?_⟩
          · by_cases ha : i < nRows xa
            · have z := a1.new i (by omega) (by omega)
              rcases a2.old i ha h2 with k | k
              · exact k.2
              · exact absurd z k.1
            · exact a2.new i (by omega) (by omega)
          · by_cases ha : i < nRows ya
            · have z := b1.new i (by omega) (by omega)
              rcases b2.old i ha h1 with k | k
              · exact k.2
              · exact absurd z k.1
            · exact b2.new i (by omega) (by omega)

/-- What both want together. -/
theorem needs {zs xa r1 : List Int} {s t : Nat} {n m : Nat} (hst : s ≠ t) (a1 : Done zs s r1 xa) (hn : r1.length = n) : needOf zs s n + needOf xa t m = n + m + (max s t + 1 - nRows zs) * 4 := by
  have ra1 := a1.rows
  unfold needOf
  split <;> split <;> omega
theorem need_le (zs : List Int) (s t n m : Nat) : needOf zs s n ≤ n + m + (max s t + 1 - nRows zs) * 4 := by
  unfold needOf
  split <;> omega
end Go.Proofs.Qxb6612825aFmt
