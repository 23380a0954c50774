/-
  PLAIN FACTS ON SLICES OF NUMBERS IN MEMORY, shared by both statements.
-/
import Derived.Test.Qxb6612677aSteps
import Derived.WalkSmall
namespace Go.Proofs.Qxb6612677a
open Go.RowKit
set_option linter.unusedVariables false

theorem IsRow.below {k : IntKind} {w w' : World} {a : Option Addr} {len cap : Nat} {zs : List Int} (h : IsRow k w a len cap zs) (hb : Below w.heap.size w w') : IsRow k w' a len cap zs := by
  rcases h with h | ⟨x, h1, h2, h3, h4, h5, h6⟩
  · exact .inl h
  · exact .inr ⟨x, h1, h2, h3, h4, fun i hi => by rw [hb.cell (block_lt_of_cell (h5 i hi))]; exact h5 i hi, h6⟩
theorem Ints.below {w w' : World} {a : Option Addr} {n : Nat} {l : List Int} (h : Ints w a n l) (hb : Below w.heap.size w w') : Ints w' a n l := by
  obtain ⟨h1, h2, h3 | ⟨b, off, h3, h4⟩⟩ := h
  · exact ⟨h1, h2, .inl h3⟩
  · exact ⟨h1, h2, .inr ⟨b, off, h3, fun j hj => by rw [hb.cell (block_lt_of_cell (h4 j hj))]; exact h4 j hj⟩⟩
/-- What the copy owns, as numbers. -/
theorem ints_of_owns {w : World} {base : Nat} {b : Option Addr} {n : Nat} {l : List Int} (h : w.ownsRow base 3 1 (.slice b n n) n (l.map (Value.int .i64))) (hn : n ≤ 1048577) : Ints w b n l := by
  have hl : l.length = n := by simpa using h.1
  refine ⟨hl, hn, ?_⟩
  by_cases h0 : n = 0
  · exact .inl h0
  rcases h.2 with ⟨_, h'⟩ | ⟨g, cap, cur, h', _⟩
  · exact absurd h' h0
  · simp only [Value.slice.injEq, true_and] at h'
    obtain ⟨rfl, rfl⟩ := h'
    refine .inr ⟨g, 0, rfl, fun j hj => ?_⟩
    rw [Nat.zero_add, h.cellAt j (by omega)]
    simp [hl, hj]
theorem Ints.take {w : World} {a : Option Addr} {n : Nat} {l : List Int} (h : Ints w a n l) (k : Nat) (hk : k ≤ n) : Ints w a k (l.take k) := by
  obtain ⟨h1, h2, h3 | ⟨b, off, h3, h4⟩⟩ := h
  · exact ⟨by simp; omega, by omega, .inl (by omega)⟩
  · refine ⟨by simp; omega, by omega, .inr ⟨b, off, h3, fun j hj => ?_⟩⟩
    rw [h4 j (by omega)]
    simp [hj]
theorem Ints.drop {w : World} {b off : Nat} {n : Nat} {l : List Int} (h : Ints w (some ⟨b, off, none⟩) n l) (k : Nat) (hk : k ≤ n) : Ints w (some ⟨b, off + k, none⟩) (n - k) (l.drop k) := by
  obtain ⟨h1, h2, h3 | ⟨b', off', h3, h4⟩⟩ := h
  · exact ⟨by simp; omega, by omega, .inl (by omega)⟩
  · simp only [Option.some.injEq, Addr.mk.injEq, and_true] at h3
    obtain ⟨rfl, rfl⟩ := h3
    refine ⟨by simp; omega, by omega, .inr ⟨b, off + k, rfl, fun j hj => ?_⟩⟩
    rw [Nat.add_assoc, h4 (k + j) (by omega)]
    simp
theorem Ints.cell {w : World} {a : Option Addr} {n : Nat} {l : List Int} (h : Ints w a n l) (j : Nat) (hj : j < n) : ∃ b off, a = some ⟨b, off, none⟩ ∧ w.cell? ⟨b, off + j, none⟩ = some (.int .i64 (l.getD j 0)) := by
  obtain ⟨h1, h2, h3 | ⟨b, off, h3, h4⟩⟩ := h
  · omega
  · exact ⟨b, off, h3, h4 j hj⟩
theorem has_split (l : List Int) (k : Nat) (i : Int) : has l i = (has (l.take k) i || has (l.drop k) i) := by
  rw [Bool.eq_iff_iff]
  simp only [has, List.contains_eq_mem, Bool.or_eq_true, decide_eq_true_eq]
  conv => lhs; rw [← List.take_append_drop k l, List.mem_append]
theorem has_succ (l : List Int) (k : Nat) (i : Int) (h : k < l.length) : has (l.take (k + 1)) i = (has (l.take k) i || (l.getD k 0 == i)) := by
  unfold has
  rw [List.take_succ_eq_append_getElem h]
  have e : l.getD k 0 = l[k] := by simp [h]
  rw [e, Bool.eq_iff_iff]
  simp only [List.contains_eq_mem, List.mem_append, List.mem_singleton, Bool.or_eq_true, decide_eq_true_eq, beq_iff_eq]
  constructor
  · rintro (h | h)
    · exact .inl h
    · exact .inr h.symm
  · rintro (h | h)
    · exact .inl h
    · exact .inr h.symm
theorem rowLe {k : IntKind} {w : World} {a : Option Addr} {len cap : Nat} {zs : List Int} (h : IsRow k w a len cap zs) : len ≤ maxLen := by
  rcases h with ⟨_, rfl, _⟩ | ⟨_, _, h1, h2, _⟩ <;> omega
end Go.Proofs.Qxb6612677a
