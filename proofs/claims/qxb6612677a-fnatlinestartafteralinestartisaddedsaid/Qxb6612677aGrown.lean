/-
  PLAIN FACTS ON A NUMBER PUT INTO A SORTED LIST AT ITS PLACE.
-/
import Derived.Test.Qxb6612677aInts
namespace Go.Proofs.Qxb6612677a
open Go.RowKit

/-- Where x belongs: what lies before k is less, what lies from k on is not. -/
def Cut (l : List Int) (k : Nat) (x : Int) : Prop := (∀ t, t < k → l.getD t 0 < x) ∧ ∀ t, k ≤ t → t < l.length → x ≤ l.getD t 0

theorem cut_hi {l : List Int} {k : Nat} {x : Int} (hs : l.Pairwise (· ≤ ·)) (hk : k < l.length) (h : ¬ l.getD k 0 < x) : ∀ t, k ≤ t → t < l.length → x ≤ l.getD t 0 := by
  intro t h1 h2
  rw [List.pairwise_iff_getElem] at hs
  have e1 : l.getD k 0 = l[k] := by simp [hk]
  have e2 : l.getD t 0 = l[t] := by simp [h2]
  rw [e1] at h
  rw [e2]
  by_cases e : k = t
  · subst e; omega
  · have := hs k t hk h2 (by omega)
    omega

/-- The list with x at its place. -/
def put (l : List Int) (k : Nat) (x : Int) : List Int := l.take k ++ x :: l.drop k

theorem put_length (l : List Int) (k : Nat) (x : Int) : (put l k x).length = l.length + 1 := by
  simp [put]; omega

theorem put_sorted {l : List Int} {k : Nat} {x : Int} (hs : l.Pairwise (· ≤ ·)) (h : Cut l k x) : (put l k x).Pairwise (· ≤ ·) := by
  have mt : ∀ a ∈ l.take k, a < x := by
    intro a ha
    obtain ⟨t, ht, rfl⟩ := List.getElem_of_mem ha
    have hl : t < k ∧ t < l.length := by simp at ht; omega
    have := h.1 t hl.1
    simpa [hl.2] using this
  have md : ∀ a ∈ l.drop k, x ≤ a := by
    intro a ha
    obtain ⟨t, ht, rfl⟩ := List.getElem_of_mem ha
    have hl : t < l.length - k := by simpa using ht
    have := h.2 (k + t) (by omega) (by omega)
    simpa [show k + t < l.length by omega] using this
  unfold put
  rw [List.pairwise_append]
  refine ⟨List.Pairwise.take hs, List.pairwise_cons.2 ⟨md, List.Pairwise.drop hs⟩, ?_⟩
  intro a ha c hc
  have h1 := mt a ha
  rcases List.mem_cons.1 hc with rfl | hc
  · omega
  · have := md c hc; omega

theorem has_put_self (l : List Int) (k : Nat) (x : Int) : has (put l k x) x = true := by simp [has, put]

theorem has_put_other (l : List Int) (k : Nat) (x i : Int) (h : i ≠ x) : has (put l k x) i = has l i := by
  rw [has_split l k i, Bool.eq_iff_iff]
  simp [has, put, h]

theorem put_take_start (l : List Int) (k : Nat) (x : Int) (h : k ≤ l.length) : (put l k x).take (k + 1) = l.take k ++ [x] := by
  unfold put
  rw [List.take_append, List.take_of_length_le (by simp; omega)]
  simp [Nat.min_eq_left h]

theorem put_take_succ (l : List Int) (k m : Nat) (x : Int) (hk : k ≤ m) (h : m < l.length) : (put l k x).take (m + 1 + 1) = (put l k x).take (m + 1) ++ [l.getD m 0] := by
  have hl : m + 1 < (put l k x).length := by rw [put_length]; omega
  rw [List.take_succ_eq_append_getElem hl]
  congr 2
  have e : l.getD m 0 = l[m] := by simp [h]
  rw [e]
  simp only [put]
  rw [List.getElem_append_right (by simp; omega)]
  have e2 : m + 1 - (l.take k).length = (m - k) + 1 := by simp; omega
  simp only [e2, List.getElem_cons_succ, List.getElem_drop]
  congr 1
  omega

theorem one_new (w : World) (v : Value) (t : TypeId) : ∀ j u, [v][j]? = some u → (w.alloc (.cells #[v] t)).cell? ((⟨w.heap.size, 0, none⟩ : Addr).add j) = some u := by
  intro j u hj
  match j, hj with
  | 0, hj => simp at hj; subst hj; simp [Addr.add]
theorem one_cell (k : IntKind) (z : Int) : ∀ u ∈ [Value.int k z], u.oneCell' = true := by
  intro u hu
  simp at hu
  subst hu
  rfl
theorem take_map_succ (l : List Int) (m : Nat) (h : m < l.length) : (l.take m).map (Value.int .i64) ++ [Value.int .i64 (l.getD m 0)] = (l.take (m + 1)).map (Value.int .i64) := by
  rw [List.take_succ_eq_append_getElem h]
  have e : l.getD m 0 = l[m] := by simp [h]
  rw [e, List.map_append]
  rfl
theorem map_snoc (l : List Int) (x : Int) : l.map (Value.int .i64) ++ [Value.int .i64 x] = (l ++ [x]).map (Value.int .i64) := by simp

theorem put_take_all (l : List Int) (k : Nat) (x : Int) : (put l k x).take (l.length + 1) = put l k x := by
  rw [List.take_of_length_le (by rw [put_length]; omega)]

/-- What a row owns, as numbers, whatever its capacity. -/
theorem ints_of_owns' {w : World} {base : Nat} {b : Option Addr} {n c : Nat} {l : List Int} (h : w.ownsRow base 3 1 (.slice b n c) n (l.map (Value.int .i64))) (hn : n ≤ 1048577) : Ints w b n l := by
  have hl : l.length = n := by simpa using h.1
  refine ⟨hl, hn, ?_⟩
  by_cases h0 : n = 0
  · exact .inl h0
  rcases h.2 with ⟨_, h'⟩ | ⟨g, cap, cur, h', _⟩
  · exact absurd h' h0
  · simp only [Value.slice.injEq, true_and] at h'
    obtain ⟨rfl, rfl⟩ := h'
    refine .inr ⟨g, 0, rfl, fun j hj => ?_⟩
    rw [Nat.zero_add, h.cellAt j (by omega)]
    simp [hl, hj]

end Go.Proofs.Qxb6612677a
