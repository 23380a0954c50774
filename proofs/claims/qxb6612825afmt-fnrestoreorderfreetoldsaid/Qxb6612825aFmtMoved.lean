/-
  COMPACTING, PLAINLY: the rows collected, put in an order, and moved to the end of the body one by one.
-/
import Derived.Test.Qxb6612825aFmtValid
namespace Go.Proofs.Qxb6612825aFmt

/-- A row's slot, offset and length. -/
abbrev Pl := Nat × Nat × Nat

/-- The rows of the first n slots. -/
def rowsOf (zs : List Int) : Nat → List Pl
  | 0 => []
  | n + 1 => if offOf zs n = 0 then rowsOf zs n else rowsOf zs n ++ [(n, offOf zs n, lenOf zs n)]

/-- cs laid at o. -/
def blit (zs : List Int) (o : Nat) (cs : List Int) : List Int := zs.take o ++ cs ++ zs.drop (o + cs.length)
/-- n bytes from o on. -/
def cut (zs : List Int) (o n : Nat) : List Int := (zs.drop o).take n

theorem blit_length {zs : List Int} {o : Nat} {cs : List Int} (h : o + cs.length ≤ zs.length) : (blit zs o cs).length = zs.length := by
  simp [blit]; omega
theorem cut_length {zs : List Int} {o n : Nat} (h : o + n ≤ zs.length) : (cut zs o n).length = n := by
  simp [cut]; omega
theorem cut_getD {zs : List Int} {o n k : Nat} (hk : k < n) : (cut zs o n).getD k 0 = zs.getD (o + k) 0 := by
  simp [cut, hk]
theorem blit_in {zs : List Int} {o : Nat} {cs : List Int} {k : Nat} (ho : o ≤ zs.length) (h1 : o ≤ k) (h2 : k < o + cs.length) : (blit zs o cs).getD k 0 = cs.getD (k - o) 0 := by
  unfold blit
  rw [List.append_assoc]
  have e1 : (zs.take o).length = o := by simp; omega
  simp only [List.getD_eq_getElem?_getD]
  rw [List.getElem?_append_right (by omega), e1, List.getElem?_append_left (by omega)]
theorem blit_out {zs : List Int} {o : Nat} {cs : List Int} {k : Nat} (ho : o + cs.length ≤ zs.length) (h : k < o ∨ o + cs.length ≤ k) : (blit zs o cs).getD k 0 = zs.getD k 0 := by
  unfold blit
  rw [List.append_assoc]
  have e1 : (zs.take o).length = o := by simp; omega
  simp only [List.getD_eq_getElem?_getD]
  rcases h with h | h
  · rw [List.getElem?_append_left (by omega), List.getElem?_take, if_pos h]
  · rw [List.getElem?_append_right (by omega), e1, List.getElem?_append_right (by omega), List.getElem?_drop]
    congr 2
    omega

/-- v's two low bytes laid at off and off + 1, the greater first. -/
def put16 (zs : List Int) (off : Nat) (v : Int) : List Int := (zs.set off (v / 256 % 256)).set (off + 1) (v % 256)
theorem put16_length (zs : List Int) (off : Nat) (v : Int) : (put16 zs off v).length = zs.length := by simp [put16]
theorem put16_out (zs : List Int) (off : Nat) (v : Int) (k : Nat) (h1 : k ≠ off) (h2 : k ≠ off + 1) : (put16 zs off v).getD k 0 = zs.getD k 0 := by
  have e1 : ¬ off + 1 = k := fun e => h2 e.symm
  have e2 : ¬ off = k := fun e => h1 e.symm
  simp [put16, e1, e2]
theorem put16_at {zs : List Int} {off : Nat} (v : Int) (h : off + 1 < zs.length) : (put16 zs off v).getD off 0 = v / 256 % 256 := by
  have h0 : off < zs.length := by omega
  simp [put16, h0]
theorem put16_at1 {zs : List Int} {off : Nat} (v : Int) (h : off + 1 < zs.length) : (put16 zs off v).getD (off + 1) 0 = v % 256 := by
  simp [put16, h]
theorem u16_put16 {zs : List Int} {off : Nat} (v : Nat) (h : off + 1 < zs.length) (hv : v < 65536) : u16 (put16 zs off (v : Int)) off = v := by
  unfold u16 byteAt
  rw [put16_at _ h, put16_at1 _ h]
  omega
/-- What lies apart reads as it did. -/
theorem u16_put16_out (zs : List Int) (off : Nat) (v : Int) (i : Nat) (h : i + 1 < off ∨ off + 1 < i) : u16 (put16 zs off v) i = u16 zs i := by
  unfold u16 byteAt
  rw [put16_out _ _ _ _ (by omega) (by omega), put16_out _ _ _ _ (by omega) (by omega)]
theorem u16_blit_out {zs : List Int} {o : Nat} {cs : List Int} {i : Nat} (ho : o + cs.length ≤ zs.length) (h : i + 1 < o ∨ o + cs.length ≤ i) : u16 (blit zs o cs) i = u16 zs i := by
  unfold u16 byteAt
  rw [blit_out ho (by omega), blit_out ho (by omega)]
theorem u16_congr {xs ys : List Int} {i : Nat} (h0 : xs.getD i 0 = ys.getD i 0) (h1 : xs.getD (i + 1) 0 = ys.getD (i + 1) 0) : u16 xs i = u16 ys i := by
  unfold u16 byteAt
  rw [h0, h1]

/-- The sum of the first k lengths. -/
def sumTo (ds : List Pl) : Nat → Nat
  | 0 => 0
  | k + 1 => sumTo ds k + (ds.getD k default).2.2
/-- Where the rows that have been moved begin. -/
def endOf (ds : List Pl) (k : Nat) : Nat := 8188 - sumTo ds k
/-- The block when the first k rows have been moved. -/
def moved (zs : List Int) (ds : List Pl) : Nat → List Int
  | 0 => zs
  | k + 1 => put16 (blit (moved zs ds k) (endOf ds (k + 1)) (cut (moved zs ds k) (ds.getD k default).2.1 (ds.getD k default).2.2)) (ent zs (ds.getD k default).1) (endOf ds (k + 1) : Nat)

theorem sumTo_mono (ds : List Pl) {k m : Nat} (h : k ≤ m) : sumTo ds k ≤ sumTo ds m := by
  induction m with
  | zero => have : k = 0 := by omega
            subst this; exact Nat.le_refl _
  | succ m ih =>
    by_cases e : k = m + 1
    · subst e; exact Nat.le_refl _
    · have := ih (by omega)
      show _ ≤ sumTo ds m + _
      omega

theorem sumTo_total (ds : List Pl) : ∀ k, k ≤ ds.length → sumTo ds k = ((ds.take k).map (·.2.2)).sum := by
  intro k
  induction k with
  | zero => intro _; rfl
  | succ k ih =>
    intro hk
    have hk' : k < ds.length := by omega
    show sumTo ds k + _ = _
    have e : ds.getD k default = ds[k] := by simp [hk']
    rw [ih (by omega), List.take_succ_eq_append_getElem hk', e]
    simp only [List.map_append, List.map_cons, List.map_nil, List.sum_append_nat, List.sum_cons, List.sum_nil, Nat.add_zero]

theorem rowsOf_sum (zs : List Int) (n : Nat) : ((rowsOf zs n).map (·.2.2)).sum = live zs n := by
  induction n with
  | zero => rfl
  | succ n ih =>
    show ((if offOf zs n = 0 then rowsOf zs n else rowsOf zs n ++ [(n, offOf zs n, lenOf zs n)]).map (·.2.2)).sum = live zs n + if offOf zs n = 0 then 0 else lenOf zs n
    by_cases h : offOf zs n = 0
    · simp [h, ih]
    · simp [h, ih]

/-- Each collected row is a slot's. -/
theorem rowsOf_mem {zs : List Int} {n : Nat} {r : Pl} (h : r ∈ rowsOf zs n) : r.1 < n ∧ offOf zs r.1 ≠ 0 ∧ r.2.1 = offOf zs r.1 ∧ r.2.2 = lenOf zs r.1 := by
  induction n with
  | zero => simp [rowsOf] at h
  | succ n ih =>
    unfold rowsOf at h
    by_cases ho : offOf zs n = 0
    · rw [if_pos ho] at h
      have := ih h
      exact ⟨by omega, this.2⟩
    · rw [if_neg ho] at h
      rcases List.mem_append.1 h with h | h
      · have := ih h
        exact ⟨by omega, this.2⟩
      · rw [List.mem_singleton] at h
        subst h
        exact ⟨by simp, ho, rfl, rfl⟩

/-- The order in which they are moved: each once, from the highest on. -/
structure Order (zs : List Int) (ds : List Pl) : Prop where
  perm : ds.Perm (rowsOf zs (nRows zs))
  desc : ∀ i j, i < j → j < ds.length → (ds.getD j default).2.1 ≤ (ds.getD i default).2.1

section
variable {zs : List Int} {ds : List Pl}
theorem Order.mem (h : Order zs ds) {k : Nat} (hk : k < ds.length) : (ds.getD k default).1 < nRows zs ∧ offOf zs (ds.getD k default).1 ≠ 0 ∧ (ds.getD k default).2.1 = offOf zs (ds.getD k default).1 ∧ (ds.getD k default).2.2 = lenOf zs (ds.getD k default).1 := by
  have e : ds.getD k default = ds[k] := by simp [hk]
  rw [e]
  exact rowsOf_mem (h.perm.mem_iff.1 (List.getElem_mem hk))
theorem Order.total (h : Order zs ds) : sumTo ds ds.length = live zs (nRows zs) := by
  rw [sumTo_total ds _ (Nat.le_refl _), List.take_length, (h.perm.map _).sum_nat, rowsOf_sum]
theorem Order.sum_le (h : Order zs ds) (V : Valid zs) {k : Nat} (hk : k ≤ ds.length) : sumTo ds k + rowSp zs ≤ 8188 := by
  have := sumTo_mono ds hk
  have := h.total
  have := V.holes
  omega
end
end Go.Proofs.Qxb6612825aFmt
