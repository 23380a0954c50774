/-
  COMPACTING KEEPS EACH ROW, plainly.
-/
import Derived.Test.Qxb6612825aFmtPlace
import Derived.Test.Qxb6612825aFmtSlot
import Derived.Test.Qxb6612825aFmtSame
namespace Go.Proofs.Qxb6612825aFmt
open Go.RowKit Go.Proofs.Qxb6612825aFmt.Big
set_option linter.unusedVariables false

section
variable {zs : List Int} {ds : List Pl}

theorem rowsOf_slots (zs : List Int) (n : Nat) : ((rowsOf zs n).map (·.1)).Nodup := by
  induction n with
  | zero => simp [rowsOf]
  | succ n ih =>
    unfold rowsOf
    split
    · exact ih
    · rw [List.map_append, List.nodup_append]
      refine ⟨ih, by simp, ?_⟩
      intro a ha b hb
      simp at hb
      subst hb
      obtain ⟨r, hr, rfl⟩ := List.mem_map.1 ha
      have := (rowsOf_mem hr).1
      omega
theorem rowsOf_has {zs : List Int} {n i : Nat} (hi : i < n) (ho : offOf zs i ≠ 0) : (i, offOf zs i, lenOf zs i) ∈ rowsOf zs n := by
  induction n with
  | zero => omega
  | succ n ih =>
    unfold rowsOf
    by_cases e : i = n
    · subst e
      rw [if_neg ho]
      simp
    · have := ih (by omega)
      split
      · exact this
      · exact List.mem_append_left _ this

theorem Order.slots (h : Order zs ds) {i j : Nat} (hi : i < ds.length) (hj : j < ds.length) (hne : i ≠ j) : (ds.getD i default).1 ≠ (ds.getD j default).1 := by
  have hn : (ds.map (·.1)).Nodup := (h.perm.map _).nodup_iff.2 (rowsOf_slots zs _)
  intro e
  have e1 : ds.getD i default = ds[i] := by simp [hi]
  have e2 : ds.getD j default = ds[j] := by simp [hj]
  rw [e1, e2] at e
  have := (List.getElem_inj (h₀ := by simpa using hi) (h₁ := by simpa using hj) hn).1 (by simpa using e)
  exact hne this
theorem Order.has (h : Order zs ds) {i : Nat} (hi : i < nRows zs) (ho : offOf zs i ≠ 0) : ∃ j, j < ds.length ∧ ds.getD j default = (i, offOf zs i, lenOf zs i) := by
  have := h.perm.mem_iff.2 (rowsOf_has hi ho)
  obtain ⟨j, hj, e⟩ := List.getElem_of_mem this
  exact ⟨j, hj, by simp [hj, e]⟩

/-- Of two rows that hold bytes the later one ends before the earlier one begins. -/
theorem Order.apart (h : Order zs ds) (V : Valid zs) {i j : Nat} (hij : i < j) (hj : j < ds.length) (pi : 0 < (ds.getD i default).2.2) (pj : 0 < (ds.getD j default).2.2) : (ds.getD j default).2.1 + (ds.getD j default).2.2 ≤ (ds.getD i default).2.1 := by
  have hd := h.desc i j hij hj
  have mi := h.mem (k := i) (by omega)
  have mj := h.mem hj
  have hs := h.slots (i := i) (by omega) hj (by omega)
  apply Classical.byContradiction
  intro hc
  have r1 : inRow zs (ds.getD i default).1 (ds.getD i default).2.1 := ⟨mi.2.1, by omega, by omega⟩
  have r2 : inRow zs (ds.getD j default).1 (ds.getD i default).2.1 := ⟨mj.2.1, by omega, by omega⟩
  by_cases hlt : (ds.getD i default).1 < (ds.getD j default).1
  · exact V.upto.apart _ _ hlt mj.1 _ r1 r2
  · exact V.upto.apart _ _ (by omega) mi.1 _ r2 r1

theorem Order.below (h : Order zs ds) (V : Valid zs) : ∀ k, k ≤ ds.length → ∀ x, x ≤ 8188 → (∀ j, j < k → 0 < (ds.getD j default).2.2 → x ≤ (ds.getD j default).2.1) → sumTo ds k + x ≤ 8188 := by
  intro k
  induction k with
  | zero => intro _ x hx _; simpa [sumTo] using hx
  | succ k ih =>
    intro hk x hx hj
    have e : sumTo ds (k + 1) = sumTo ds k + (ds.getD k default).2.2 := rfl
    rw [e]
    by_cases hz : (ds.getD k default).2.2 = 0
    · rw [hz]
      exact ih (by omega) x hx fun j hjk => hj j (by omega)
    · have h1 := hj k (by omega) (by omega)
      have h2 := h.at V (k := k) (by omega)
      have h3 := ih (by omega) ((ds.getD k default).2.1 + (ds.getD k default).2.2) h2.2.1 fun j hjk hp => h.apart V hjk (by omega) hp (by omega)
      omega

/-- A row that holds bytes ends, before it is moved, at or below where it will lie. -/
theorem Order.ends (h : Order zs ds) (V : Valid zs) {k : Nat} (hk : k < ds.length) (hp : 0 < (ds.getD k default).2.2) : (ds.getD k default).2.1 + (ds.getD k default).2.2 ≤ endOf ds k := by
  have h2 := h.at V hk
  have h3 := h.below V k (by omega) ((ds.getD k default).2.1 + (ds.getD k default).2.2) h2.2.1 fun j hjk hq => h.apart V hjk hk hq hp
  unfold endOf
  omega

theorem endOf_mono (ds : List Pl) {k m : Nat} (h : k ≤ m) : endOf ds m ≤ endOf ds k := by
  have := sumTo_mono ds h
  unfold endOf
  omega

/-- What holds when the first k rows have been moved. -/
structure Mid (zs : List Int) (ds : List Pl) (k : Nat) (ms : List Int) : Prop where
  out : ∀ p, (p < dirS zs ∨ ent zs (nRows zs) ≤ p) → (p < endOf ds k ∨ 8188 ≤ p) → ms.getD p 0 = zs.getD p 0
  raw : ∀ i, i < nRows zs → u16 ms (ent zs i + 2) = rawOf zs i
  off : ∀ j, j < k → u16 ms (ent zs (ds.getD j default).1) = endOf ds (j + 1)
  kept : ∀ i, i < nRows zs → (∀ j, j < k → (ds.getD j default).1 ≠ i) → u16 ms (ent zs i) = offOf zs i
  row : ∀ j, j < k → ∀ t, t < (ds.getD j default).2.2 → ms.getD (endOf ds (j + 1) + t) 0 = zs.getD ((ds.getD j default).2.1 + t) 0

theorem moved_mid (hB : IsBlk zs) (h : Order zs ds) (V : Valid zs) : ∀ k, k ≤ ds.length → Mid zs ds k (moved zs ds k) := by
  intro k
  induction k with
  | zero => intro _; exact ⟨fun _ _ _ => rfl, fun _ _ => rfl, fun j hj => absurd hj (Nat.not_lt_zero _), fun _ _ _ => rfl, fun j hj => absurd hj (Nat.not_lt_zero _)⟩
  | succ k ih =>
    intro hk
    have hk' : k < ds.length := by omega
    have I := ih (by omega)
    have i1 := moved_blk hB h V k (by omega)
    have h1 := h.at V hk'
    have h2 := h.end_eq V hk'
    have h3 := h.ends V hk'
    have hdir := V.dir
    have hl : (cut (moved zs ds k) (ds.getD k default).2.1 (ds.getD k default).2.2).length = (ds.getD k default).2.2 := cut_length (by rw [i1.len]; omega)
    have e : moved zs ds (k + 1) = put16 (blit (moved zs ds k) (endOf ds (k + 1)) (cut (moved zs ds k) (ds.getD k default).2.1 (ds.getD k default).2.2)) (ent zs (ds.getD k default).1) (endOf ds (k + 1) : Nat) := rfl
    have hbl : endOf ds (k + 1) + (cut (moved zs ds k) (ds.getD k default).2.1 (ds.getD k default).2.2).length ≤ (moved zs ds k).length := by rw [hl, i1.len]; omega
    have hbb : (blit (moved zs ds k) (endOf ds (k + 1)) (cut (moved zs ds k) (ds.getD k default).2.1 (ds.getD k default).2.2)).length = 8192 := by rw [blit_length hbl, i1.len]
    -- the bytes outside the entry
    have hb : ∀ p, p ≠ ent zs (ds.getD k default).1 → p ≠ ent zs (ds.getD k default).1 + 1 → (p < endOf ds (k + 1) ∨ endOf ds k ≤ p) → (moved zs ds (k + 1)).getD p 0 = (moved zs ds k).getD p 0 := by
      intro p hp1 hp2 hp3
      rw [e, put16_out _ _ _ _ hp1 hp2, blit_out hbl (by rw [hl]; omega)]
    have hin : ∀ t, t < (ds.getD k default).2.2 → (moved zs ds (k + 1)).getD (endOf ds (k + 1) + t) 0 = zs.getD ((ds.getD k default).2.1 + t) 0 := by
      intro t ht
      rw [e, put16_out _ _ _ _ (by omega) (by omega), blit_in (by rw [i1.len]; omega) (by omega) (by rw [hl]; omega)]
      have : endOf ds (k + 1) + t - endOf ds (k + 1) = t := by omega
      rw [this, cut_getD ht]
      have h4 := h3 (by omega)
      exact I.out _ (by omega) (by omega)
    have hent : ∀ i, i < nRows zs → ent zs i + 4 ≤ ent zs (nRows zs) ∧ 52 ≤ ent zs i := by intro i hi; unfold ent dirS; omega
    refine ⟨fun p hp1 hp2 => ?_, fun i hi => ?_, fun j hj => ?_, fun i hi hne => ?_, fun j hj t ht => ?_⟩
    · have hd : dirS zs ≤ ent zs (ds.getD k default).1 ∧ ent zs (ds.getD k default).1 + 4 ≤ ent zs (nRows zs) := by have := h1.2.2.1; unfold ent; omega
      rw [hb p (by omega) (by omega) (by omega)]
      exact I.out p hp1 (by omega)
    · have h5 := hent i hi
      have h6 : ent zs i = dirS zs + 4 * i := rfl
      have h7 : ent zs (ds.getD k default).1 = dirS zs + 4 * (ds.getD k default).1 := rfl
      rw [← I.raw i hi]
      exact u16_congr (hb _ (by omega) (by omega) (by omega)) (hb _ (by omega) (by omega) (by omega))
    · by_cases ej : j = k
      · subst ej
        rw [e]
        exact u16_put16 _ (by rw [hbb]; omega) (by omega)
      · have h5 := h.mem (k := j) (by omega)
        have h8 := hent _ h5.1
        have h9 := h.slots (i := j) (by omega) hk' ej
        have h6 : ent zs (ds.getD j default).1 = dirS zs + 4 * (ds.getD j default).1 := rfl
        have h7 : ent zs (ds.getD k default).1 = dirS zs + 4 * (ds.getD k default).1 := rfl
        rw [← I.off j (by omega)]
        exact u16_congr (hb _ (by omega) (by omega) (by omega)) (hb _ (by omega) (by omega) (by omega))
    · have h8 := hent i hi
      have h9 := hne k (by omega)
      have h6 : ent zs i = dirS zs + 4 * i := rfl
      have h7 : ent zs (ds.getD k default).1 = dirS zs + 4 * (ds.getD k default).1 := rfl
      rw [← I.kept i hi fun j hj => hne j (by omega)]
      exact u16_congr (hb _ (by omega) (by omega) (by omega)) (hb _ (by omega) (by omega) (by omega))
    · by_cases ej : j = k
      · subst ej
        exact hin t ht
      · have h5 := endOf_mono ds (k := j + 1) (m := k) (by omega)
        rw [hb _ (by omega) (by omega) (by omega)]
        exact I.row j (by omega) t ht
end

/-- Two blocks say the same of each slot. -/
structure Kept (zs zs1 : List Int) : Prop where
  blk : IsBlk zs1
  valid : Valid zs1
  ent : ∀ i, ent zs1 i = ent zs i
  rows : nRows zs1 = nRows zs
  empty : u16 zs1 30 = u16 zs 30
  hdr : HdrSame zs zs1
  slot : ∀ i, i < nRows zs → SlotSame zs zs1 i
  free : freeOf zs1 = freeOf zs

theorem live_congr {xs ys : List Int} {n : Nat} (h : ∀ i, i < n → (offOf xs i = 0 ↔ offOf ys i = 0) ∧ (offOf xs i ≠ 0 → lenOf xs i = lenOf ys i)) : live xs n = live ys n ∧ empties xs n = empties ys n := by
  induction n with
  | zero => exact ⟨rfl, rfl⟩
  | succ n ih =>
    have i1 := ih fun i hi => h i (by omega)
    have h1 := h n (by omega)
    have e1 : live xs (n + 1) = live xs n + if offOf xs n = 0 then 0 else lenOf xs n := rfl
    have e2 : live ys (n + 1) = live ys n + if offOf ys n = 0 then 0 else lenOf ys n := rfl
    have e3 : empties xs (n + 1) = empties xs n + if offOf xs n = 0 then 1 else 0 := rfl
    have e4 : empties ys (n + 1) = empties ys n + if offOf ys n = 0 then 1 else 0 := rfl
    rw [e1, e2, e3, e4, i1.1, i1.2]
    by_cases hz : offOf xs n = 0
    · have := h1.1.1 hz
      simp [hz, this]
    · have hz' : ¬ offOf ys n = 0 := fun e => hz (h1.1.2 e)
      simp [hz, hz', h1.2 hz]

theorem kept_refl {zs : List Int} (hB : IsBlk zs) (V : Valid zs) : Kept zs zs :=
  ⟨hB, V, fun _ => rfl, rfl, rfl, ⟨fun _ _ _ _ => rfl, fun _ _ _ => rfl⟩, fun i _ => if h : offOf zs i = 0 then .inl ⟨h, h⟩ else .inr ⟨h, h, rfl, fun _ _ => rfl⟩, rfl⟩

theorem compacted_kept {zs zs1 : List Int} (hB : IsBlk zs) (V : Valid zs) (hc : Compacted zs zs1) : Kept zs zs1 := by
  have cb := compacted_blk hB V hc
  have ce := compacted_ent hB V hc
  have cr := compacted_rows hB V hc
  have cs := compacted_sp hB V hc
  have cl := compacted_low hB V hc
  have h30 : u16 zs1 30 = u16 zs 30 := u16_congr (cl 30 (by omega) (by omega) (by omega) (by omega) (by omega)) (cl 31 (by omega) (by omega) (by omega) (by omega) (by omega))
  obtain ⟨ds, hO, hz1⟩ := hc
  have M := moved_mid hB hO V ds.length (Nat.le_refl _)
  have hb : ∀ p, p ≠ 18 → p ≠ 19 → p ≠ 28 → p ≠ 29 → zs1.getD p 0 = (moved zs ds ds.length).getD p 0 := by
    intro p h1 h2 h3 h4
    rw [hz1, put16_out _ _ _ _ (by omega) (by omega), put16_out _ _ _ _ (by omega) (by omega)]
  have hu : ∀ p, 52 ≤ p → u16 zs1 p = u16 (moved zs ds ds.length) p := fun p hp => u16_congr (hb _ (by omega) (by omega) (by omega) (by omega)) (hb _ (by omega) (by omega) (by omega) (by omega))
  have hent : ∀ i, i < nRows zs → ent zs i + 4 ≤ ent zs (nRows zs) ∧ 52 ≤ ent zs i := by intro i hi; unfold ent dirS; omega
  have hE : endOf ds ds.length = rowSp zs1 := by
    have ht := hO.total
    have hs := hO.sum_le V (Nat.le_refl ds.length)
    unfold endOf
    omega
  have hdir := V.dir
  have hEsp : rowSp zs ≤ endOf ds ds.length := by have hs := hO.sum_le V (Nat.le_refl ds.length); unfold endOf; omega
  have hraw : ∀ i, i < nRows zs → rawOf zs1 i = rawOf zs i := by
    intro i hi
    unfold rawOf
    rw [ce, hu _ (by have := hent i hi; omega), M.raw i hi]
    rfl
  have hlen : ∀ i, i < nRows zs → lenOf zs1 i = lenOf zs i := by intro i hi; unfold lenOf; rw [hraw i hi]
  have hoff : ∀ i, i < nRows zs → offOf zs i ≠ 0 → ∃ j, j < ds.length ∧ ds.getD j default = (i, offOf zs i, lenOf zs i) ∧ offOf zs1 i = endOf ds (j + 1) := by
    intro i hi ho
    obtain ⟨j, hj, e⟩ := hO.has hi ho
    refine ⟨j, hj, e, ?_⟩
    have := M.off j hj
    rw [e] at this
    unfold offOf
    rw [ce, hu _ (by have := hent i hi; omega)]
    exact this
  have hzero : ∀ i, i < nRows zs → offOf zs i = 0 → offOf zs1 i = 0 := by
    intro i hi ho
    have := M.kept i hi fun j hj e => (hO.mem hj).2.1 (by rw [e]; exact ho)
    unfold offOf
    rw [ce, hu _ (by have := hent i hi; omega), this]
    exact ho
  have hnz : ∀ i, i < nRows zs → offOf zs i ≠ 0 → offOf zs1 i ≠ 0 := by
    intro i hi ho
    obtain ⟨j, hj, e, h1⟩ := hoff i hi ho
    have := hO.end_eq V hj
    have := (hent i hi)
    omega
  have hslot : ∀ i, i < nRows zs → SlotSame zs zs1 i := by
    intro i hi
    by_cases ho : offOf zs i = 0
    · exact .inl ⟨ho, hzero i hi ho⟩
    · obtain ⟨j, hj, e, h1⟩ := hoff i hi ho
      refine .inr ⟨ho, hnz i hi ho, (hraw i hi).symm, fun k hk => ?_⟩
      have h2 := hO.end_eq V hj
      have h3 := hent i hi
      have := M.row j hj k (by rw [e]; exact hk)
      rw [h1, hb _ (by omega) (by omega) (by omega) (by omega), this, e]
  have hlv := live_congr (xs := zs1) (ys := zs) (n := nRows zs) fun i hi => ⟨⟨fun h => Classical.byContradiction fun hn => hnz i hi hn h, hzero i hi⟩, fun _ => hlen i hi⟩
  have hV1 : Valid zs1 := by
    refine ⟨by rw [ce, cr]; omega, by omega, ⟨fun i hi h0 => ?_, fun i hi h0 => ?_, fun i j hij hj k hki hkj => ?_⟩, by rw [cr, hlv.1]; omega, by rw [cr, hlv.2, h30]; exact V.empty⟩
    · rw [cr] at hi
      rw [hraw i hi]
      exact V.upto.zero i hi (Classical.byContradiction fun hn => hnz i hi hn h0)
    · rw [cr] at hi
      by_cases ho : offOf zs i = 0
      · exact absurd (hzero i hi ho) h0
      · obtain ⟨j, hj, e, h1⟩ := hoff i hi ho
        have h2 := hO.end_eq V hj
        have h3 := endOf_mono ds (k := j + 1) (m := ds.length) (by omega)
        rw [e] at h2
        rw [h1, hlen i hi]
        simp only at h2
        omega
    · rw [cr] at hj
      have hi : i < nRows zs := by omega
      have oi : offOf zs i ≠ 0 := fun e => hki.1 (hzero i hi e)
      have oj : offOf zs j ≠ 0 := fun e => hkj.1 (hzero j hj e)
      obtain ⟨a, ha, ea, h1⟩ := hoff i hi oi
      obtain ⟨b, hb', eb, h2⟩ := hoff j hj oj
      have h3 := hO.end_eq V ha
      have h4 := hO.end_eq V hb'
      rw [ea] at h3
      rw [eb] at h4
      simp only at h3 h4
      have k1 := hki.2
      have k2 := hkj.2
      rw [h1, hlen i hi] at k1
      rw [h2, hlen j hj] at k2
      have hab : a ≠ b := by
        intro e
        subst e
        rw [ea] at eb
        simp at eb
        omega
      by_cases hlt : a < b
      · have := endOf_mono ds (k := a + 1) (m := b) (by omega)
        omega
      · have := endOf_mono ds (k := b + 1) (m := a) (by omega)
        omega
  refine ⟨cb, hV1, ce, cr, h30, ⟨fun k hk h1 h2 => ?_, fun k h1 h2 => ?_⟩, hslot, ?_⟩
  · have hd : dirS zs ≤ ent zs (nRows zs) := by unfold ent; omega
    rw [hb k (by omega) (by omega) (by omega) (by omega)]
    exact (M.out k (.inl hk) (.inl (by omega))).symm
  · have hd : ent zs (nRows zs) ≤ 8188 := by have := V.top; omega
    rw [hb k (by omega) (by omega) (by omega) (by omega)]
    exact (M.out k (.inr (by omega)) (.inr h1)).symm
  · rw [freeOf_eq hV1, freeOf_eq V, ce, cr, hlv.1]
end Go.Proofs.Qxb6612825aFmt
