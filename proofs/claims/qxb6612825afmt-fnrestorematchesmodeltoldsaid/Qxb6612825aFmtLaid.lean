/-
  WHAT Restore LEAVES, plainly.
-/
import Derived.Test.Qxb6612825aFmtKept
import Derived.Test.Qxb6612825aFmtRestore
namespace Go.Proofs.Qxb6612825aFmt
open Go.RowKit Go.Proofs.Qxb6612825aFmt.Big
set_option linter.unusedVariables false

theorem live_except {xs ys : List Int} {n s : Nat} (hs : s < n) (h : ∀ i, i < n → i ≠ s → (offOf xs i = 0 ↔ offOf ys i = 0) ∧ (offOf xs i ≠ 0 → lenOf xs i = lenOf ys i)) (hx : offOf xs s = 0) (hy : offOf ys s ≠ 0) :
    live ys n = live xs n + lenOf ys s ∧ empties ys n + 1 = empties xs n := by
  induction n with
  | zero => omega
  | succ n ih =>
    have e1 : live xs (n + 1) = live xs n + if offOf xs n = 0 then 0 else lenOf xs n := rfl
    have e2 : live ys (n + 1) = live ys n + if offOf ys n = 0 then 0 else lenOf ys n := rfl
    have e3 : empties xs (n + 1) = empties xs n + if offOf xs n = 0 then 1 else 0 := rfl
    have e4 : empties ys (n + 1) = empties ys n + if offOf ys n = 0 then 1 else 0 := rfl
    rw [e1, e2, e3, e4]
    by_cases e : s = n
    · subst e
      have := live_congr (xs := xs) (ys := ys) (n := s) fun i hi => h i (by omega) (by omega)
      rw [if_pos hx, if_neg hy, if_pos hx, if_neg hy]
      omega
    · have i1 := ih (by omega) fun i hi hne => h i (by omega) hne
      have h1 := h n (by omega) (by omega)
      by_cases hz : offOf xs n = 0
      · have := h1.1.1 hz
        rw [if_pos hz, if_pos this, if_pos hz, if_pos this]
        omega
      · have hz' : ¬ offOf ys n = 0 := fun e => hz (h1.1.2 e)
        rw [if_neg hz, if_neg hz', if_neg hz, if_neg hz', h1.2 hz]
        omega
theorem live_more {ys : List Int} {n m : Nat} (hnm : n ≤ m) (h : ∀ i, n ≤ i → i < m → offOf ys i = 0) : live ys m = live ys n ∧ empties ys m = empties ys n + (m - n) := by
  induction m with
  | zero =>
    have : n = 0 := by omega
    subst this
    exact ⟨rfl, rfl⟩
  | succ m ih =>
    by_cases e : n = m + 1
    · subst e
      exact ⟨rfl, by omega⟩
    · have i1 := ih (by omega) fun i h1 h2 => h i h1 (by omega)
      have h1 := h m (by omega) (by omega)
      have e2 : live ys (m + 1) = live ys m + if offOf ys m = 0 then 0 else lenOf ys m := rfl
      have e4 : empties ys (m + 1) = empties ys m + if offOf ys m = 0 then 1 else 0 := rfl
      rw [e2, e4, if_pos h1, if_pos h1]
      omega

/-- What Restore leaves where the row fits. -/
structure Done (zs : List Int) (s : Nat) (rs : List Int) (zs' : List Int) : Prop where
  blk : IsBlk zs'
  valid : Valid zs'
  ent : ∀ i, ent zs' i = ent zs i
  hdr : HdrSame zs zs'
  rows : nRows zs' = max (nRows zs) (s + 1)
  off : offOf zs' s ≠ 0
  raw : rawOf zs' s = rs.length
  row : ∀ k, k < rs.length → zs'.getD (offOf zs' s + k) 0 = rs.getD k 0
  old : ∀ i, i < nRows zs → i ≠ s → SlotSame zs zs' i
  new : ∀ i, nRows zs ≤ i → i < s → offOf zs' i = 0
  free : freeOf zs' = freeOf zs - (needOf zs s rs.length : Nat)
  short : rs.length ≤ 8188

/-- The directory widened. -/
structure Wide (zs1 : List Int) (s q : Nat) (z2 : List Int) : Prop where
  rows : nRows z2 = max (nRows zs1) (s + 1)
  same : ∀ p, p ≠ 16 → p ≠ 17 → (p < ent zs1 (nRows zs1) ∨ q ≤ p) → z2.getD p 0 = zs1.getD p 0
  zero : ∀ i, nRows zs1 ≤ i → i ≤ s → u16 z2 (ent zs1 i) = 0 ∧ u16 z2 (ent zs1 i + 2) = 0

theorem widen_wide {zs1 : List Int} {s q : Nat} (hB : IsBlk zs1) (hq : q ≤ 8188) (h : ent zs1 (nRows zs1) + (s + 1 - nRows zs1) * 4 ≤ q) : Wide zs1 s q (widen zs1 s) := by
  by_cases hs : s < nRows zs1
  · rw [widen_in hs]
    exact ⟨by omega, fun _ _ _ _ => rfl, fun i h1 h2 => by omega⟩
  · rw [widen_out hs]
    have hge := ent_ge zs1 (nRows zs1)
    have hn : 4 * nRows zs1 ≤ ent zs1 (nRows zs1) := by unfold ent; omega
    have hl : ent zs1 (nRows zs1) + (List.replicate ((s + 1 - nRows zs1) * 4) (0 : Int)).length ≤ zs1.length := by rw [List.length_replicate, hB.len]; omega
    have hz : ∀ p, ent zs1 (nRows zs1) ≤ p → p < ent zs1 (nRows zs1) + (s + 1 - nRows zs1) * 4 → (put16 (blit zs1 (ent zs1 (nRows zs1)) (List.replicate ((s + 1 - nRows zs1) * 4) 0)) 16 ((s : Int) + 1)).getD p 0 = 0 := by
      intro p h1 h2
      rw [put16_out _ _ _ _ (by omega) (by omega), blit_in (by rw [hB.len]; omega) h1 (by rw [List.length_replicate]; exact h2)]
      rw [List.getD_eq_getElem?_getD, List.getElem?_replicate]
      split <;> rfl
    refine ⟨?_, fun p h1 h2 h3 => ?_, fun i h1 h2 => ?_⟩
    · have := u16_put16 (zs := blit zs1 (ent zs1 (nRows zs1)) (List.replicate ((s + 1 - nRows zs1) * 4) 0)) (off := 16) (s + 1) (by rw [blit_length hl, hB.len]; omega) (by omega)
      have e : ((s + 1 : Nat) : Int) = (s : Int) + 1 := by omega
      rw [e] at this
      unfold nRows at *
      rw [this]
      omega
    · rw [put16_out _ _ _ _ h1 h2, blit_out hl (by rw [List.length_replicate]; omega)]
    · have e1 : ent zs1 i = ent zs1 (nRows zs1) + 4 * (i - nRows zs1) := by unfold ent; omega
      unfold u16 byteAt
      rw [hz _ (by omega) (by omega), hz _ (by omega) (by omega), hz _ (by omega) (by omega), hz _ (by omega) (by omega)]
      exact ⟨rfl, rfl⟩

/-- The row laid. -/
structure Lay (z2 : List Int) (s : Nat) (rs : List Int) (em : Nat) (z3 : List Int) : Prop where
  blk : IsBlk z3
  same : ∀ p, (p < ent z2 s ∨ ent z2 s + 4 ≤ p) → p ≠ 18 → p ≠ 19 → p ≠ 30 → p ≠ 31 → (p < rowSp z2 - rs.length ∨ rowSp z2 ≤ p) → z3.getD p 0 = z2.getD p 0
  row : ∀ k, k < rs.length → z3.getD (rowSp z2 - rs.length + k) 0 = rs.getD k 0
  off : u16 z3 (ent z2 s) = rowSp z2 - rs.length
  raw : u16 z3 (ent z2 s + 2) = rs.length
  sp : rowSp z3 = rowSp z2 - rs.length
  empty : u16 z3 30 = em

theorem laid_lay {z2 rs : List Int} {s em : Nat} (hB : IsBlk z2) (hw : ∀ z ∈ rs, (Lit.int .u8 z).wf = true) (hq : rowSp z2 ≤ 8188) (h : ent z2 s + 4 + rs.length ≤ rowSp z2) (hem : em < 65536) : Lay z2 s rs em (laid z2 s rs (em : Int)) := by
  have hge := ent_ge z2 s
  have hfit : rowSp z2 - rs.length + rs.length = rowSp z2 := by omega
  rw [laid_eq (q := rowSp z2) rfl rfl rfl rfl]
  generalize hen : ent z2 s = en at *
  generalize hqe : rowSp z2 = q at *
  generalize ho : q - rs.length = o1 at *
  have hl : o1 + rs.length ≤ z2.length := by rw [hB.len]; omega
  have b0 : IsBlk (blit z2 o1 rs) := hB.blit (by omega) hw
  have b1 := b0.put16 en (o1 : Int)
  have b2 := b1.put16 (en + 2) (rs.length : Int)
  have b3 := b2.put16 18 (o1 : Int)
  have b4 := b3.put16 30 (em : Int)
  refine ⟨b4, fun p h1 h2 h3 h4 h5 h6 => ?_, fun k hk => ?_, ?_, ?_, ?_, u16_put16 _ (by rw [b3.len]; omega) hem⟩
  · rw [hen] at h1
    rw [hqe] at h6
    rw [ho] at h6
    rw [put16_out _ _ _ _ (by omega) (by omega), put16_out _ _ _ _ (by omega) (by omega), put16_out _ _ _ _ (by omega) (by omega), put16_out _ _ _ _ (by omega) (by omega), blit_out hl (by omega)]
  · rw [hqe, ho]
    rw [put16_out _ _ _ _ (by omega) (by omega), put16_out _ _ _ _ (by omega) (by omega), put16_out _ _ _ _ (by omega) (by omega), put16_out _ _ _ _ (by omega) (by omega), blit_in (by omega) (by omega) (by omega)]
    have : o1 + k - o1 = k := by omega
    rw [this]
  · rw [hen, hqe, ho]
    rw [u16_put16_out _ _ _ _ (by omega), u16_put16_out _ _ _ _ (by omega), u16_put16_out _ _ _ _ (by omega), u16_put16 _ (by rw [b0.len]; omega) (by omega)]
  · rw [hen]
    rw [u16_put16_out _ _ _ _ (by omega), u16_put16_out _ _ _ _ (by omega), u16_put16 _ (by rw [b1.len]; omega) (by omega)]
  · rw [hqe, ho]
    unfold rowSp
    rw [u16_put16_out _ _ _ _ (by omega), u16_put16 _ (by rw [b2.len]; omega) (by omega)]

theorem empties_pos {zs : List Int} {n s : Nat} (hs : s < n) (h0 : offOf zs s = 0) : 0 < empties zs n := by
  induction n with
  | zero => omega
  | succ n ih =>
    have e3 : empties zs (n + 1) = empties zs n + if offOf zs n = 0 then 1 else 0 := rfl
    rw [e3]
    by_cases e : s = n
    · subst e
      rw [if_pos h0]
      omega
    · have := ih (by omega)
      omega

theorem placed_done {zs zs' rs : List Int} {s : Nat} (hB : IsBlk zs) (V : Valid zs) (h0 : s < nRows zs → offOf zs s = 0) (hw : ∀ z ∈ rs, (Lit.int .u8 z).wf = true) (hP : Placed zs s rs zs') : Done zs s rs zs' := by
  obtain ⟨zs1, hc, R, hz⟩ := hP
  have K : Kept zs zs1 := by
    rcases hc with rfl | hc
    · exact kept_refl hB V
    · exact compacted_kept hB V hc
  have V1 := K.valid
  have hW := widen_sp R
  have hr := K.rows
  have hroom := R.room
  have htop := R.top
  have hn0 : needOf zs s rs.length = rs.length + (s + 1 - nRows zs) * 4 := by
    by_cases h : s < nRows zs
    · rw [needOf_in h]; omega
    · rw [needOf_out h]
  rw [hn0] at hroom
  have hWd := widen_wide (s := s) (q := rowSp zs1) K.blk htop (by rw [hr, K.ent]; omega)
  have h01 : s < nRows zs → offOf zs1 s = 0 := by
    intro h
    rcases K.slot s h with h1 | h1
    · exact h1.2
    · exact absurd (h0 h) h1.1
  obtain ⟨em, hem⟩ : ∃ em : Nat, emptyOf zs s = (em : Int) ∧ em < 65536 ∧ em + (if s < nRows zs then 1 else 0) = u16 zs1 30 + (s - nRows zs) := by
    have hl := K.blk.u16_lt 30
    have he := V1.empty
    rw [hr] at he
    have hle := empties_le zs1 (nRows zs)
    have hge := ent_ge zs (nRows zs)
    by_cases h : s < nRows zs
    · have := empties_pos h (h01 h)
      refine ⟨u16 zs1 30 - 1, ?_, by omega, by rw [if_pos h]; omega⟩
      rw [emptyOf_in h, ← K.empty]
      omega
    · have hn4 : ent zs (nRows zs) = dirS zs + 4 * nRows zs := rfl
      refine ⟨u16 zs1 30 + (s - nRows zs), ?_, by omega, by rw [if_neg h]; omega⟩
      rw [emptyOf_out h, ← K.empty]
      omega
  obtain ⟨hem, hem1, hem2⟩ := hem
  have hE2 := hW.2.2.1
  have hY := laid_lay (z2 := widen zs1 s) (rs := rs) (s := s) (em := em) hW.1 hw (by rw [hW.2.1]; exact htop) (by rw [hE2, hW.2.1]; exact hW.2.2.2) hem1
  rw [← hem, ← hz] at hY
  have hsp := hW.2.1
  have hfit := hW.2.2.2
  generalize widen zs1 s = z2 at *
  clear hz hW
  have ge1 := ent_ge zs s
  -- the header's fields
  have eS : ∀ i, ent zs1 i = ent zs i := K.ent
  have lowY : ∀ p, p < 52 → p ≠ 18 → p ≠ 19 → p ≠ 30 → p ≠ 31 → zs'.getD p 0 = z2.getD p 0 := by
    intro p h1 h2 h3 h4 h5
    exact hY.same p (by rw [hE2]; omega) h2 h3 h4 h5 (by rw [hsp]; omega)
  have eE : ∀ i, ent zs' i = ent zs i := by
    intro i
    have : ent zs' i = ent z2 i := by
      unfold ent dirS
      rw [u16_congr (lowY 20 (by omega) (by omega) (by omega) (by omega) (by omega)) (lowY 21 (by omega) (by omega) (by omega) (by omega) (by omega))]
    rw [this, hE2]
  have eR : nRows zs' = max (nRows zs) (s + 1) := by
    rw [← hr, ← hWd.rows]
    unfold nRows
    exact u16_congr (lowY 16 (by omega) (by omega) (by omega) (by omega) (by omega)) (lowY 17 (by omega) (by omega) (by omega) (by omega) (by omega))
  have ge2 := ent_ge zs (nRows zs)
  have eH : u16 zs' 28 = u16 zs1 28 := by
    refine u16_congr ?_ ?_
    · rw [lowY 28 (by omega) (by omega) (by omega) (by omega) (by omega)]
      exact hWd.same _ (by omega) (by omega) (.inl (by rw [hr, eS]; omega))
    · rw [lowY 29 (by omega) (by omega) (by omega) (by omega) (by omega)]
      exact hWd.same _ (by omega) (by omega) (.inl (by rw [hr, eS]; omega))
  have eSp : rowSp zs' = rowSp zs1 - rs.length := by rw [hY.sp, hsp]
  -- the slots
  have eO : offOf zs' s = rowSp zs1 - rs.length := by
    have := hY.off
    rw [hE2, hsp] at this
    unfold offOf
    rw [eE, this]
  have eW : rawOf zs' s = rs.length := by
    have := hY.raw
    rw [hE2] at this
    unfold rawOf
    rw [eE, this]
  have eL : lenOf zs' s = rs.length := by unfold lenOf; rw [eW]; omega
  have hentlt : ∀ i, i < nRows zs → ent zs i + 4 ≤ ent zs (nRows zs) ∧ 52 ≤ ent zs i := by intro i hi; unfold ent dirS; omega
  have hde : ent zs (nRows zs) ≤ rowSp zs1 - rs.length := by omega
  have eB : ∀ p, 52 ≤ p → p < ent zs (nRows zs) → (p < ent zs s ∨ ent zs s + 4 ≤ p) → zs'.getD p 0 = zs1.getD p 0 := by
    intro p h1 h2 h3
    rw [hY.same p (by rw [hE2]; exact h3) (by omega) (by omega) (by omega) (by omega) (by rw [hsp]; omega)]
    exact hWd.same p (by omega) (by omega) (.inl (by rw [hr, eS]; exact h2))
  have eI : ∀ i, i < nRows zs → i ≠ s → offOf zs' i = offOf zs1 i ∧ rawOf zs' i = rawOf zs1 i := by
    intro i hi hne
    have h1 := hentlt i hi
    have h2 : ent zs i = dirS zs + 4 * i := rfl
    have h3 : ent zs s = dirS zs + 4 * s := rfl
    unfold offOf rawOf
    rw [eE, eS]
    exact ⟨u16_congr (eB _ (by omega) (by omega) (by omega)) (eB _ (by omega) (by omega) (by omega)), u16_congr (eB _ (by omega) (by omega) (by omega)) (eB _ (by omega) (by omega) (by omega))⟩
  have eZ : ∀ i, nRows zs ≤ i → i < s → offOf zs' i = 0 ∧ rawOf zs' i = 0 := by
    intro i h1 h2
    have h3 := hWd.zero i (by omega) (by omega)
    rw [eS] at h3
    have h4 : ent zs i = dirS zs + 4 * i := rfl
    have h5 : ent zs s = dirS zs + 4 * s := rfl
    have h6 := ent_ge zs i
    have hp : ∀ p, 52 ≤ p → p < ent zs s → zs'.getD p 0 = z2.getD p 0 := fun p hp1 hp2 => hY.same p (by rw [hE2]; omega) (by omega) (by omega) (by omega) (by omega) (by rw [hsp]; omega)
    unfold offOf rawOf
    rw [eE, ← h3.1]
    refine ⟨u16_congr (hp _ (by omega) (by omega)) (hp _ (by omega) (by omega)), ?_⟩
    rw [h3.1, ← h3.2]
    exact u16_congr (hp _ (by omega) (by omega)) (hp _ (by omega) (by omega))
  have eT : ∀ p, rowSp zs1 ≤ p → zs'.getD p 0 = zs1.getD p 0 := by
    intro p hp
    rw [hY.same p (by rw [hE2]; omega) (by omega) (by omega) (by omega) (by omega) (by rw [hsp]; omega)]
    exact hWd.same p (by omega) (by omega) (.inr hp)
  have eI' : ∀ i, i < nRows zs → i ≠ s → (offOf zs1 i = 0 ↔ offOf zs' i = 0) ∧ (offOf zs1 i ≠ 0 → lenOf zs1 i = lenOf zs' i) := by
    intro i hi hne
    have := eI i hi hne
    unfold lenOf
    rw [this.1, this.2]
    exact ⟨Iff.rfl, fun _ => rfl⟩
  have hO : offOf zs' s ≠ 0 := by rw [eO]; omega
  -- the sums
  have hSum : live zs' (nRows zs') = live zs1 (nRows zs) + rs.length ∧ empties zs' (nRows zs') = em := by
    rw [eR]
    have hemp := V1.empty
    rw [hr] at hemp
    by_cases h : s < nRows zs
    · have hm : max (nRows zs) (s + 1) = nRows zs := by omega
      have := live_except h eI' (h01 h) hO
      rw [hm, this.1, eL]
      rw [if_pos h] at hem2
      exact ⟨rfl, by omega⟩
    · have hm : max (nRows zs) (s + 1) = s + 1 := by omega
      rw [hm]
      have h1 := live_more (ys := zs') (n := nRows zs) (m := s) (by omega) fun i a b => (eZ i a b).1
      have h2 := live_congr (xs := zs1) (ys := zs') (n := nRows zs) fun i hi => eI' i hi (by omega)
      have e2 : live zs' (s + 1) = live zs' s + if offOf zs' s = 0 then 0 else lenOf zs' s := rfl
      have e4 : empties zs' (s + 1) = empties zs' s + if offOf zs' s = 0 then 1 else 0 := rfl
      rw [e2, e4, if_neg hO, if_neg hO, eL]
      rw [if_neg h] at hem2
      omega
  have hEnt : ent zs (max (nRows zs) (s + 1)) = ent zs (nRows zs) + (s + 1 - nRows zs) * 4 := by unfold ent; omega
  have hV' : Valid zs' := by
    have hholes := V1.holes
    rw [hr] at hholes
    refine ⟨by rw [eE, eR, eSp, hEnt]; omega, by rw [eSp]; omega, ⟨fun i hi hz => ?_, fun i hi hz => ?_, fun i j hij hj k hki hkj => ?_⟩, by rw [hSum.1, eSp, eH]; omega, by rw [hSum.2]; exact hY.empty⟩
    · rw [eR] at hi
      have hne : i ≠ s := fun e => hO (by rw [← e]; exact hz)
      by_cases hin : i < nRows zs
      · rw [(eI i hin hne).2]
        exact V1.upto.zero i (by omega) (by rw [← (eI i hin hne).1]; exact hz)
      · exact (eZ i (by omega) (by omega)).2
    · rw [eR] at hi
      by_cases hne : i = s
      · subst hne
        rw [eO, eL, eSp]
        omega
      · by_cases hin : i < nRows zs
        · have h1 := (eI i hin hne).1
          rw [h1] at hz
          have h2 := V1.upto.fits i (by omega) hz
          rw [h1, eSp, ← (eI' i hin hne).2 hz]
          omega
        · exact absurd (eZ i (by omega) (by omega)).1 hz
    · rw [eR] at hj
      have other : ∀ x, x < max (nRows zs) (s + 1) → x ≠ s → inRow zs' x k → x < nRows zs ∧ inRow zs1 x k ∧ rowSp zs1 ≤ k := by
        intro x hx hne hk
        have hin : x < nRows zs := by
          apply Classical.byContradiction
          intro hc
          exact hk.1 (eZ x (by omega) (by omega)).1
        have h1 := (eI x hin hne).1
        have h3 := hk.1
        rw [h1] at h3
        have h2 := V1.upto.fits x (by omega) h3
        have h4 := hk.2
        rw [h1, ← (eI' x hin hne).2 h3] at h4
        exact ⟨hin, ⟨h3, h4⟩, by omega⟩
      have own : inRow zs' s k → k < rowSp zs1 := by
        intro hk
        have h4 := hk.2
        rw [eO, eL] at h4
        omega
      by_cases hi : i = s
      · subst hi
        have h1 := other j hj (by omega) hkj
        have h2 := own hki
        omega
      · by_cases hjs : j = s
        · subst hjs
          have h1 := other i (by omega) hi hki
          have h2 := own hkj
          omega
        · have h1 := other i (by omega) hi hki
          have h2 := other j hj hjs hkj
          exact V1.upto.apart i j hij (by omega) k h1.2.1 h2.2.1
  refine ⟨hY.blk, hV', eE, ⟨fun k hk h1 h2 => ?_, fun k h1 h2 => ?_⟩, eR, hO, eW, fun k hk => ?_, fun i hi hne => ?_, fun i h1 h2 => (eZ i h1 h2).1, ?_, by omega⟩
  · have h3 : dirS zs ≤ ent zs s := by unfold ent; omega
    have h4 : dirS zs ≤ ent zs (nRows zs) := by unfold ent; omega
    rw [K.hdr.head k hk h1 h2, hY.same k (by rw [hE2]; omega) (by omega) (by omega) (by omega) (by omega) (by rw [hsp]; omega)]
    exact (hWd.same k (by omega) (by omega) (.inl (by rw [hr, eS]; omega))).symm
  · rw [K.hdr.tail k h1 h2, eT k (by omega)]
  · have := hY.row k hk
    rw [hsp] at this
    rw [eO, this]
  · have h1 := eI i hi hne
    rcases K.slot i hi with h2 | ⟨h2, h3, h4, h5⟩
    · exact .inl ⟨h2.1, by rw [h1.1]; exact h2.2⟩
    · refine .inr ⟨h2, by rw [h1.1]; exact h3, by rw [h1.2]; exact h4, fun k hk => ?_⟩
      have h6 := V1.upto.fits i (by omega) h3
      rw [h5 k hk, h1.1, eT _ (by omega)]
  · have hS1 := hSum.1
    rw [← K.free, freeOf_eq hV', freeOf_eq V1, hS1, eE, eR, eS, hr, hEnt, hn0]
    omega
end Go.Proofs.Qxb6612825aFmt
