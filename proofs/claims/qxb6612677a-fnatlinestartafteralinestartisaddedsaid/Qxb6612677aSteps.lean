/-
  THE WALKS OF THE SMALL CALLEES: zzBytes_.. (13, 19), zzLinesFit (14), ZZnewYAMLText (17).
-/
import Derived.Test.Qxb6612677aCopies
import Derived.Deep.QuietTactic
import Derived.BigQuiet
import Derived.Test.Qxb6612677aShelf
import Derived.Deep.LoopGhost
namespace Go.Proofs.Qxb6612677a
open Go.RowKit
set_option linter.unusedVariables false

set_option maxHeartbeats 400000 in
theorem bytes13 (a0 : Option Addr) (len0 cap0 : Nat) (a1 : Option Addr) (len1 cap1 : Nat) (a2 : Int) (a3 : Bool) (a4 a5 a6 a7 a8 : Int) (w : World) (h0 : len0 ≤ maxLen) (h1 : len1 ≤ maxLen) :
    Calls Try.prog 13 #[.slice a0 len0 cap0, .slice a1 len1 cap1, .int .i64 a2, .bool a3, .int .i64 a4, .int .i64 a5, .int .i64 a6, .int .i64 a7, .int .i64 a8] w fun e w' => (∃ b, e = .returned (.bool b) ∧ (b = true → len0 + len1 ≤ 1048576)) ∧ w' = w := by
  unfold maxLen at h0 h1
  by_cases c0 : 1048576 < len0
  · go_enter Try.func13, Try.ntmps13
    go_wp2
    go_ret
    exact ⟨⟨false, rfl, fun h => by cases h⟩, rfl⟩
  by_cases c1 : 1048576 < len1
  · go_enter Try.func13, Try.ntmps13
    go_wp2
    go_ret
    exact ⟨⟨false, rfl, fun h => by cases h⟩, rfl⟩
  by_cases c2 : 1048576 < len0 + len1
  · go_enter Try.func13, Try.ntmps13
    go_wp2
    go_ret
    exact ⟨⟨false, rfl, fun h => by cases h⟩, rfl⟩
  · go_enter Try.func13, Try.ntmps13
    go_wp2
    go_ret
    exact ⟨⟨true, rfl, fun _ => by omega⟩, rfl⟩

set_option maxHeartbeats 400000 in
theorem bytes19 (a0 : Option Addr) (len0 cap0 : Nat) (a1 : Option Addr) (len1 cap1 : Nat) (a2 : Int) (a3 : Bool) (a4 a5 a6 a7 a8 : Int) (w : World) (h0 : len0 ≤ maxLen) (h1 : len1 ≤ maxLen) :
    Calls Try.prog 19 #[.slice a0 len0 cap0, .slice a1 len1 cap1, .int .i64 a2, .bool a3, .int .i64 a4, .int .i64 a5, .int .i64 a6, .int .i64 a7, .int .i64 a8] w fun e w' => (∃ b, e = .returned (.bool b) ∧ (b = true → len0 + len1 ≤ 1048576)) ∧ w' = w := by
  unfold maxLen at h0 h1
  by_cases c0 : 1048576 < len0
  · go_enter Try.func19, Try.ntmps19
    go_wp2
    go_ret
    exact ⟨⟨false, rfl, fun h => by cases h⟩, rfl⟩
  by_cases c1 : 1048576 < len1
  · go_enter Try.func19, Try.ntmps19
    go_wp2
    go_ret
    exact ⟨⟨false, rfl, fun h => by cases h⟩, rfl⟩
  by_cases c2 : 1048576 < len0 + len1
  · go_enter Try.func19, Try.ntmps19
    go_wp2
    go_ret
    exact ⟨⟨false, rfl, fun h => by cases h⟩, rfl⟩
  · go_enter Try.func19, Try.ntmps19
    go_wp2
    go_ret
    exact ⟨⟨true, rfl, fun _ => by omega⟩, rfl⟩

set_option maxHeartbeats 400000 in
theorem newText (a2 : Int) (a3 : Bool) (a4 a5 a6 : Int) (a0 : Option Addr) (len0 cap0 : Nat) (b : Option Addr) (len1 cap1 : Nat) (w : World) :
    Calls Try.prog 17 #[.slice a0 len0 cap0, .slice b len1 cap1, .int .i64 a2, .bool a3, .int .i64 a4, .int .i64 a5, .int .i64 a6] w fun e w' => e = .returned (.pointer (some ⟨w.heap.size, 0, none⟩)) ∧
      w' = w.alloc (.cells #[.slice a0 len0 cap0, .slice b len1 cap1, .int .i64 a2, .bool a3, .int .i64 a4, .int .i64 a5, .int .i64 a6] 52) := by
  go_enter Try.func17, Try.ntmps17
  go_wp2
  go_ret
  exact ⟨rfl, rfl⟩

/-- The slice 'a' of n elements holds the numbers l. -/
def Ints (w : World) (a : Option Addr) (n : Nat) (l : List Int) : Prop :=
  l.length = n ∧ n ≤ 1048577 ∧ (n = 0 ∨ ∃ b off, a = some ⟨b, off, none⟩ ∧ ∀ j, j < n → w.cell? ⟨b, off + j, none⟩ = some (.int .i64 (l.getD j 0)))

/-- Is i among l? (Under a name of its own: the walk's simp does not look into it.) -/
def has (l : List Int) (i : Int) : Bool := l.contains i

set_option maxHeartbeats 400000 in
theorem at22 (p : Nat) (a : Option Addr) (n c : Nat) (l : List Int) (i : Int) (w : World) (hcell : w.cell? ⟨p, 1, none⟩ = some (.slice a n c)) (hI : Ints w a n l) (hs : l.Pairwise (· ≤ ·)) :
    Calls Try.prog 22 #[.pointer (some ⟨p, 0, none⟩), .int .i64 i] w fun e w' => e = .returned (.bool (has l i)) ∧ ∃ q, w' = w.drewN q := by
  obtain ⟨hl, hn, h0 | ⟨b, off, rfl, hc⟩⟩ := hI
  · subst h0
    have hl0 : l = [] := List.length_eq_zero_iff.1 hl
    subst hl0
    go_enter Try.func22, Try.ntmps22
    go_wp2_with (go_at_call 25; refine (Try.slices_BinarySearch_int_empty _ _ _ _).mono ?_; rintro e w' ⟨rfl, rfl⟩)
    go_ret
    exact ⟨rfl, 0, rfl⟩
  · have hB := Try.slices_BinarySearch_int b off n c l i w (by omega) (by omega) (by rw [hl]; exact hc) (by rw [List.take_of_length_le (by omega)]; exact hs)
    rw [List.take_of_length_le (by omega : l.length ≤ n)] at hB
    have hB' : Calls Try.prog 25 #[.slice (some ⟨b, off, none⟩) n c, .int .i64 i] w fun e w' => e = .returned (.tuple #[.int .i64 (l.countP (· < i) : Nat), .bool (has l i)]) ∧ ∃ q, w' = w.drewN q := hB
    clear hc hs hB
    go_enter Try.func22, Try.ntmps22
    go_wp2_with (go_at_call 25; refine hB'.mono ?_; rintro e w' ⟨rfl, q, rfl⟩)
    go_ret
    exact ⟨rfl, q, rfl⟩
set_option maxHeartbeats 400000 in
theorem at18 (p : Nat) (a : Option Addr) (n c : Nat) (l : List Int) (i : Int) (w : World) (hcell : w.cell? ⟨p, 1, none⟩ = some (.slice a n c)) (hI : Ints w a n l) (hs : l.Pairwise (· ≤ ·)) :
    Calls Try.prog 18 #[.pointer (some ⟨p, 0, none⟩), .int .i64 i] w fun e w' => e = .returned (.bool (has l i)) ∧ ∃ q, w' = w.drewN q := by
  have hA := at22 p a n c l i w hcell hI hs
  clear hcell hI hs
  go_enter Try.func18, Try.ntmps18
  go_wp2_with (go_at_call 22; refine hA.mono ?_; rintro e w' ⟨rfl, q, rfl⟩)
  go_ret
  exact ⟨rfl, q, rfl⟩

/-- Each element is at least the one before it: sorted. -/
theorem sorted_of_steps (l : List Int) (h : ∀ j, j + 1 < l.length → l.getD j 0 ≤ l.getD (j + 1) 0) : l.Pairwise (· ≤ ·) := by
  rw [List.pairwise_iff_getElem]
  intro i j hi hj hij
  have key : ∀ d, i + d < l.length → l.getD i 0 ≤ l.getD (i + d) 0 := by
    intro d
    induction d with
    | zero => intro _; exact Int.le_refl _
    | succ d ih => intro hd; exact Int.le_trans (ih (by omega)) (h (i + d) (by omega))
  have := key (j - i) (by omega)
  rw [show i + (j - i) = j by omega] at this
  simpa [hi, hj] using this

set_option maxHeartbeats 1000000 in
theorem linesFit (a0 : Option Addr) (len0 cap0 : Nat) (b off : Nat) (len1 cap1 : Nat) (zs : List Int) (w : World) (h0 : len0 ≤ 1048576) (h1 : len1 ≤ 1048576) (hl : len1 ≤ zs.length)
    (hc : ∀ i, i < zs.length → w.cell? ⟨b, off + i, none⟩ = some (.int .i64 (zs.getD i 0))) :
    Calls Try.prog 14 #[.slice a0 len0 cap0, .slice (some ⟨b, off, none⟩) len1 cap1] w fun e w' => (∃ b, e = .returned (.bool b) ∧ (b = true → (zs.take len1).Pairwise (· ≤ ·))) ∧ ∃ q, w' = w.drewN q := by
  by_cases c1 : 131072 < len1
  · go_enter Try.func14, Try.ntmps14
    go_wp2
    all_goals (go_ret; exact ⟨⟨false, rfl, fun h => by cases h⟩, 0, rfl⟩)
  by_cases c2 : 1048576 < len0 + 8 * len1
  · go_enter Try.func14, Try.ntmps14
    go_wp2
    all_goals (go_ret; exact ⟨⟨false, rfl, fun h => by cases h⟩, 0, rfl⟩)
  go_enter Try.func14, Try.ntmps14
  go_wp2
  go_loopw [5] (fun j wr => ∃ k q : Nat, 1 ≤ k ∧ (k ≤ len1 ∨ k = 1) ∧ j = .int .i64 k ∧ wr = w.drewN q ∧ ∀ t, t + 1 < k → t + 1 < len1 → zs.getD t 0 ≤ zs.getD (t + 1) 0)
    (fun j _ => len1 - (intOf j).toNat)
  case atStart => exact ⟨1, 0, Nat.le_refl _, .inr rfl, rfl, rfl, fun t h => by omega⟩
  case round =>
    obtain ⟨k, q, hk1, hk, rfl, rfl, hst⟩ := hrel
    have HS : Hid (∀ t, t + 1 < k → t + 1 < len1 → zs.getD t 0 ≤ zs.getD (t + 1) 0) := hst
    clear hst
    by_cases hlt : k < len1
    · obtain ⟨i, rfl⟩ : ∃ i, k = i + 1 := ⟨k - 1, by omega⟩
      have hs0 := hc i (by omega)
      have hs1 := hc (i + 1) (by omega)
      have b1 : (i : Int) + 1 < (len1 : Int) := by omega
      have b2 : (i : Int) < (len1 : Int) := by omega
      clear hc
      by_cases hd : zs.getD (i + 1) 0 < zs.getD i 0
      · have hd' : zs[i + 1]?.getD 0 < zs[i]?.getD 0 := by simpa using hd
        go_wp2
        go_quiet (fail)
        go_wp2
        go_ret
        exact ⟨⟨false, rfl, fun h => by cases h⟩, _, World.drewN_drewN _ _ _⟩
      · have hd' : ¬ zs[i + 1]?.getD 0 < zs[i]?.getD 0 := by simpa using hd
        go_wp2
        go_quiet (fail)
        go_wp2
        go_roundw
        case rel => 
          refine ⟨i + 1 + 1, _, by omega, by omega, by go_num, rfl, fun t h1 h2 => ?_⟩
          by_cases ht : t = i
          · subst ht; omega
          · exact HS.out t (by omega) h2
        case measure => simp [intOf]; omega
    · go_wp2
      go_ret
      refine ⟨⟨true, rfl, fun _ => ?_⟩, q, rfl⟩
      refine sorted_of_steps _ fun j hj => ?_
      have hj' : j + 1 < len1 := by simp at hj; omega
      have := HS.out j (by omega) hj'
      simpa [List.getElem?_take, hj', (by omega : j < len1)] using this

set_option maxHeartbeats 400000 in
theorem linesFit0 (a0 : Option Addr) (len0 cap0 : Nat) (a1 : Option Addr) (cap1 : Nat) (w : World) (h0 : len0 ≤ 1048576) :
    Calls Try.prog 14 #[.slice a0 len0 cap0, .slice a1 0 cap1] w fun e w' => e = .returned (.bool true) ∧ ∃ q, w' = w.drewN q := by
  go_enter Try.func14, Try.ntmps14
  go_wp2
  go_loop [5] (fun j => j = .int .i64 1) (fun j => 0)
  case atStart => rfl
  case round =>
    subst hrel
    go_wp2
    go_ret
    exact ⟨rfl, 0, rfl⟩

/-- zzLinesFit at whatever slices came in. -/
theorem linesFit_any (a0 : Option Addr) (len0 cap0 : Nat) (a1 : Option Addr) (len1 cap1 : Nat) (zs : List Int) (w : World) (hr : IsRow .i64 w a1 len1 cap1 zs) (h0 : len0 ≤ 1048576) (h1 : len1 ≤ 1048576) :
    Calls Try.prog 14 #[.slice a0 len0 cap0, .slice a1 len1 cap1] w fun e w' => (∃ b, e = .returned (.bool b) ∧ (b = true → (zs.take len1).Pairwise (· ≤ ·))) ∧ ∃ q, w' = w.drewN q := by
  by_cases hz : len1 = 0
  · subst hz
    refine (linesFit0 a0 len0 cap0 a1 cap1 w h0).mono ?_
    rintro e w' ⟨rfl, hq⟩
    exact ⟨⟨true, rfl, fun _ => by simp⟩, hq⟩
  · rcases hr with ⟨_, h, _⟩ | ⟨x, rfl, g1, _, g2, g3, _⟩
    · exact absurd h hz
    · obtain ⟨b, off, spot⟩ := x
      have hspot : spot = none := by simpa [Addr.add] using World.cell?_spot (g3 0 (by omega))
      subst hspot
      exact linesFit a0 len0 cap0 b off len1 cap1 zs w h0 h1 (by omega) fun i hi => by rw [← Go.WideShapes.add_plain]; exact g3 i hi
end Go.Proofs.Qxb6612677a
