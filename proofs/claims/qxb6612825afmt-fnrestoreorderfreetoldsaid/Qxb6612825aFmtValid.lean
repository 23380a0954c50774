/-
  WHAT A WELL-FORMED DATA BLOCK IS, plainly.
-/
import Derived.Test.Qxb6612825aFmtPlain
namespace Go.Proofs.Qxb6612825aFmt

/-- The bytes that the first n slots' rows hold. -/
def live (zs : List Int) : Nat → Nat
  | 0 => 0
  | n + 1 => live zs n + if offOf zs n = 0 then 0 else lenOf zs n
/-- How many of the first n slots are empty. -/
def empties (zs : List Int) : Nat → Nat
  | 0 => 0
  | n + 1 => empties zs n + if offOf zs n = 0 then 1 else 0

/-- Byte k lies in slot i's row. -/
def inRow (zs : List Int) (i k : Nat) : Prop := offOf zs i ≠ 0 ∧ offOf zs i ≤ k ∧ k < offOf zs i + lenOf zs i

/-- What has been found of the first n slots. -/
structure Upto (zs : List Int) (n : Nat) : Prop where
  zero : ∀ i, i < n → offOf zs i = 0 → rawOf zs i = 0
  fits : ∀ i, i < n → offOf zs i ≠ 0 → rowSp zs ≤ offOf zs i ∧ offOf zs i + lenOf zs i ≤ 8188
  apart : ∀ i j, i < j → j < n → ∀ k, inRow zs i k → inRow zs j k → False

structure Valid (zs : List Int) : Prop where
  dir : ent zs (nRows zs) ≤ rowSp zs
  top : rowSp zs ≤ 8188
  upto : Upto zs (nRows zs)
  holes : u16 zs 28 + rowSp zs + live zs (nRows zs) = 8188
  empty : u16 zs 30 = empties zs (nRows zs)

theorem Upto.nil (zs : List Int) : Upto zs 0 := ⟨fun _ h => absurd h (Nat.not_lt_zero _), fun _ h => absurd h (Nat.not_lt_zero _), fun _ _ _ h => absurd h (Nat.not_lt_zero _)⟩
theorem Upto.mono {zs : List Int} {n m : Nat} (h : Upto zs m) (hn : n ≤ m) : Upto zs n :=
  ⟨fun i hi => h.zero i (by omega), fun i hi => h.fits i (by omega), fun i j hij hj => h.apart i j hij (by omega)⟩

/-- One slot more: an empty one. -/
theorem Upto.succ_empty {zs : List Int} {n : Nat} (h : Upto zs n) (ho : offOf zs n = 0) (hr : rawOf zs n = 0) : Upto zs (n + 1) := by
  refine ⟨fun i hi => ?_, fun i hi => ?_, fun i j hij hj k hi hk => ?_⟩
  · by_cases e : i = n
    · subst e; exact fun _ => hr
    · exact h.zero i (by omega)
  · by_cases e : i = n
    · subst e; exact fun h => absurd ho h
    · exact h.fits i (by omega)
  · by_cases e : j = n
    · subst e; exact hk.1 ho
    · exact h.apart i j hij (by omega) k hi hk
/-- One slot more: a row. -/
theorem Upto.succ_row {zs : List Int} {n : Nat} (h : Upto zs n) (ho : offOf zs n ≠ 0) (h1 : rowSp zs ≤ offOf zs n) (h2 : offOf zs n + lenOf zs n ≤ 8188)
    (ha : ∀ i, i < n → ∀ k, inRow zs i k → ¬ inRow zs n k) : Upto zs (n + 1) := by
  refine ⟨fun i hi => ?_, fun i hi => ?_, fun i j hij hj k hi hk => ?_⟩
  · by_cases e : i = n
    · subst e; exact fun h => absurd h ho
    · exact h.zero i (by omega)
  · by_cases e : i = n
    · subst e; exact fun _ => ⟨h1, h2⟩
    · exact h.fits i (by omega)
  · by_cases e : j = n
    · subst e; exact ha i hij k hi hk
    · exact h.apart i j hij (by omega) k hi hk

theorem live_le (zs : List Int) (n : Nat) : live zs n ≤ n * 32768 := by
  induction n with
  | zero => exact Nat.le_refl _
  | succ n ih =>
    have h : lenOf zs n < 32768 := by unfold lenOf; omega
    have e : live zs (n + 1) = live zs n + if offOf zs n = 0 then 0 else lenOf zs n := rfl
    rw [e, Nat.succ_mul]
    split
    · exact Nat.le_trans ih (Nat.le_add_right _ _)
    · exact Nat.add_le_add ih (Nat.le_of_lt h)
theorem empties_le (zs : List Int) (n : Nat) : empties zs n ≤ n := by
  induction n with
  | zero => exact Nat.le_refl _
  | succ n ih =>
    have e : empties zs (n + 1) = empties zs n + if offOf zs n = 0 then 1 else 0 := rfl
    rw [e]
    split <;> omega

/-- The bytes that are in use after the first n slots. -/
def Used (zs : List Int) (n : Nat) (us : Nat → Bool) : Prop := ∀ k, us k = true ↔ ∃ i, i < n ∧ inRow zs i k
theorem Used.nil (zs : List Int) : Used zs 0 (fun _ => false) := fun k => by
  constructor
  · intro h; cases h
  · rintro ⟨i, hi, _⟩; omega
/-- .. and after the first m bytes of slot n's row. -/
def UsedTo (zs : List Int) (n m : Nat) (us : Nat → Bool) : Prop := ∀ k, us k = true ↔ (∃ i, i < n ∧ inRow zs i k) ∨ (offOf zs n ≤ k ∧ k < m)
theorem Used.to {zs : List Int} {n : Nat} {us : Nat → Bool} (h : Used zs n us) : UsedTo zs n (offOf zs n) us := fun k => by
  rw [h k]
  constructor
  · exact .inl
  · rintro (h | h)
    · exact h
    · omega
theorem UsedTo.next {zs : List Int} {n m : Nat} {us : Nat → Bool} (h : UsedTo zs n m us) (hm : offOf zs n ≤ m) : UsedTo zs n (m + 1) (fun k => if k = m then true else us k) := fun k => by
  by_cases e : k = m
  · subst e
    simp
    exact .inr hm
  · simp only [e, if_false, h k]
    constructor
    · rintro (h | h)
      · exact .inl h
      · exact .inr ⟨h.1, by omega⟩
    · rintro (h | h)
      · exact .inl h
      · exact .inr ⟨h.1, by omega⟩
theorem UsedTo.done {zs : List Int} {n : Nat} {us : Nat → Bool} (h : UsedTo zs n (offOf zs n + lenOf zs n) us) (ho : offOf zs n ≠ 0) : Used zs (n + 1) us := fun k => by
  rw [h k]
  constructor
  · rintro (⟨i, hi, hk⟩ | ⟨h1, h2⟩)
    · exact ⟨i, by omega, hk⟩
    · exact ⟨n, by omega, ho, h1, h2⟩
  · rintro ⟨i, hi, hk⟩
    by_cases e : i = n
    · subst e; exact .inr hk.2
    · exact .inl ⟨i, by omega, hk⟩
theorem Used.skip {zs : List Int} {n : Nat} {us : Nat → Bool} (h : Used zs n us) (ho : offOf zs n = 0) : Used zs (n + 1) us := fun k => by
  rw [h k]
  constructor
  · rintro ⟨i, hi, hk⟩; exact ⟨i, by omega, hk⟩
  · rintro ⟨i, hi, hk⟩
    by_cases e : i = n
    · subst e; exact absurd ho hk.1
    · exact ⟨i, by omega, hk⟩
end Go.Proofs.Qxb6612825aFmt
