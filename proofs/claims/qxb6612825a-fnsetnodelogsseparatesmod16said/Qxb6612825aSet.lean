/-
  setU16, SetNodeLogs, zzSameBytes.
-/
import Derived.Test.Qxb6612825aShiftWalk
import Derived.Deep.QuietTactic
import Derived.BigQuiet
import Derived.WalkSmall
namespace Go.Proofs.Qxb6612825a
open Go.RowKit Go.Proofs.Qxb6612825a.Big
set_option linter.unusedVariables false

/-- v's two low bytes laid at off and off + 1, the greater first. -/
def put16 (zs : List Int) (off : Nat) (v : Int) : List Int := (zs.set off (v / 256 % 256)).set (off + 1) (v % 256)
theorem put16_length (zs : List Int) (off : Nat) (v : Int) : (put16 zs off v).length = zs.length := by simp [put16]

theorem byteCells16 (n : Nat) : Lib.byteCells (Lib.beBytes 2 n) = [Value.int .u8 ((n / 256 % 256 : Nat) : Int), Value.int .u8 ((n % 256 : Nat) : Int)] := by
  simp [Lib.byteCells, Lib.beBytes, Lib.leBytes]

theorem grown_trans {a b c : World} {r : Option Nat} (h : a.grownBy b r) (k : b.grownBy c r) : a.grownBy c r :=
  ⟨k.os.trans h.os, k.tape.trans h.tape, k.output.trans h.output, Nat.le_trans h.size k.size, fun i hi hr => (k.block i (Nat.lt_of_lt_of_le hi h.size) hr).trans (h.block i hi hr)⟩
theorem grown_setCell (w : World) (g i : Nat) (v : Value) : w.grownBy (w.setCell ⟨g, i, none⟩ v) (some g) :=
  ⟨rfl, rfl, rfl, by simp [World.setCell], fun k hk hr => heap_setCell_other _ _ _ _ (by simpa using hr)⟩
theorem grown_drew (w : World) (r : Option Nat) : w.grownBy w.drew r := ⟨rfl, rfl, rfl, Nat.le_refl _, fun _ _ _ => rfl⟩

theorem put_world {w : World} {g off n : Nat} {v : Int} {zs : List Int} {t : TypeId} (hg : w.heap[g]? = some (.cells (cellsOf zs) t (0, 0))) (hn : IntKind.u16.wrap v = (n : Int)) (o : Obj) :
    ((w.alloc o).setCells g off (Lib.byteCells (Lib.beBytes 2 n))).heap[g]? = some (.cells (cellsOf (put16 zs off v)) t (0, 0)) ∧ w.grownBy ((w.alloc o).setCells g off (Lib.byteCells (Lib.beBytes 2 n))) (some g) := by
  rw [byteCells16]
  simp only [World.setCells]
  have e1 : ((n / 256 % 256 : Nat) : Int) = v / 256 % 256 := by rw [IntKind.wrap_u16] at hn; omega
  have e2 : ((n % 256 : Nat) : Int) = v % 256 := by rw [IntKind.wrap_u16] at hn; omega
  rw [e1, e2]
  have h0 : (w.alloc o).heap[g]? = some (.cells (cellsOf zs) t (0, 0)) := (Below.heap_alloc w o g (lt_of_block hg)).trans hg
  have h1 := heap_setCell_same (w.alloc o) g off _ t (.int .u8 (v / 256 % 256)) h0
  rw [set_cellsOf] at h1
  have h2 := heap_setCell_same _ g (off + 1) _ t (.int .u8 (v % 256)) h1
  rw [set_cellsOf] at h2
  exact ⟨h2, grown_trans (World.grownBy_alloc w o _) (grown_trans (grown_setCell _ g off _) (grown_setCell _ g (off + 1) _))⟩

set_option maxHeartbeats 400000 in
theorem set11 (g off : Nat) (v : Int) (zs : List Int) (t : TypeId) (w : World) (hz : zs.length = 8192) (hoff : off + 2 ≤ 8192) (hg : w.heap[g]? = some (.cells (cellsOf zs) t (0, 0))) :
    Calls Try.prog 11 #[.pointer (some ⟨g, 0, none⟩), .int .i64 off, .int .i64 v] w fun e w' => e = .returned (.tuple #[]) ∧ w'.heap[g]? = some (.cells (cellsOf (put16 zs off v)) t (0, 0)) ∧ w.grownBy w' (some g) := by
  obtain ⟨n, hn⟩ : ∃ n : Nat, IntKind.u16.wrap v = (n : Int) := ⟨(v % 65536).toNat, by rw [IntKind.wrap_u16]; omega⟩
  have hn1 : n < 65536 := by rw [IntKind.wrap_u16] at hn; omega
  have hC : ∀ W : World, W.heap = w.heap → Calls Try.prog 12 #[.agg #[], .slice (some ⟨g, off, none⟩) (8192 - off) (8192 - off), .int .u16 (IntKind.u16.wrap v)] W fun e w' => e = .returned (.tuple #[]) ∧ w'.heap[g]? = some (.cells (cellsOf (put16 zs off v)) t (0, 0)) ∧ W.grownBy w' (some g) := by
    intro W hW
    have hg' : W.heap[g]? = some (.cells (cellsOf zs) t (0, 0)) := by rw [hW]; exact hg
    have hP := Try.binary_BE_PutUint16 g off (8192 - off) (8192 - off) n hn1 _ _ W (by omega) (cell_at hg' off (by omega)) (cell_at hg' (off + 1) (by omega)) (frozen_of_row _ _ _ _ _ hg') (frozen_of_row _ _ _ _ _ hg')
    rw [← hn] at hP
    refine hP.mono ?_
    rintro e w' ⟨rfl, rfl⟩
    exact ⟨rfl, put_world hg' hn _⟩
  clear hn hg
  have h1 : (0 : Int) ≤ (off : Int) := by omega
  have h2 : (off : Int) ≤ 8192 := by omega
  have h3 : (off : Int) < 8192 := by omega
  have h4 : ¬ 8192 = off := by omega
  go_enter Try.func11, Try.ntmps11
  go_region_with (go_at_call 12; refine (hC _ (by rfl)).mono ?_; rintro e w' ⟨rfl, hb⟩)
  all_goals
    go_wp2
    go_end0
    exact ⟨rfl, hb.1, grown_trans (grown_drew _ _) hb.2⟩

set_option maxHeartbeats 400000 in
theorem logs8 (g : Nat) (v : Int) (zs : List Int) (t : TypeId) (w : World) (hz : zs.length = 8192) (hg : w.heap[g]? = some (.cells (cellsOf zs) t (0, 0))) :
    Calls Try.prog 8 #[.pointer (some ⟨g, 0, none⟩), .int .i64 v] w fun e w' => e = .returned (.tuple #[]) ∧ w'.heap[g]? = some (.cells (cellsOf (put16 zs 90 v)) t (0, 0)) ∧ w.grownBy w' (some g) := by
  have hS := set11 g 90 v zs t w hz (by omega) hg
  clear hg hz
  go_enter Try.func8, Try.ntmps8
  go_wp2_with (go_at_call 11; refine hS.mono ?_; rintro e w' ⟨rfl, hb⟩)
  go_end0
  exact ⟨rfl, hb⟩

/-- Are the two blocks the same? -/
def sameB (xs ys : List Int) : Bool := decide (xs = ys)
theorem sameB_true {xs ys : List Int} (h : xs = ys) : sameB xs ys = true := decide_eq_true h
theorem sameB_false {xs ys : List Int} (h : xs ≠ ys) : sameB xs ys = false := decide_eq_false h

theorem same_of_getD {xs ys : List Int} (hx : xs.length = 8192) (hy : ys.length = 8192) (h : ∀ t, t < 8192 → xs.getD t 0 = ys.getD t 0) : xs = ys := by
  refine List.ext_getElem (by omega) fun i h1 h2 => ?_
  have := h i (by omega)
  simpa [h1, h2] using this

set_option maxHeartbeats 400000 in
theorem same9 (p q : Nat) (xs ys : List Int) (t t' : TypeId) (w : World) (hx : xs.length = 8192) (hy : ys.length = 8192) (hp : w.heap[p]? = some (.cells (cellsOf xs) t (0, 0))) (hq : w.heap[q]? = some (.cells (cellsOf ys) t' (0, 0))) :
    Calls Try.prog 9 #[.pointer (some ⟨p, 0, none⟩), .pointer (some ⟨q, 0, none⟩)] w fun e w' => e = .returned (.bool (sameB xs ys)) ∧ ∃ n, w' = w.drewN n := by
  go_enter Try.func9, Try.ntmps9
  go_wp2
  go_loopw [5] (fun i wr => ∃ k n : Nat, k ≤ 8192 ∧ i = .int .i64 k ∧ wr = w.drewN n ∧ ∀ t, t < k → xs.getD t 0 = ys.getD t 0) (fun i _ => 8192 - (intOf i).toNat)
  case atStart => exact ⟨0, 0, by omega, rfl, rfl, fun t h => absurd h (Nat.not_lt_zero _)⟩
  case round =>
    obtain ⟨k, n, hk, rfl, rfl, hpre⟩ := hrel
    have HP : Hid (∀ t, t < k → xs.getD t 0 = ys.getD t 0) := hpre
    clear hpre
    by_cases hlt : k < 8192
    · have c0 := cell_at hp k (by omega)
      have c1 := cell_at hq k (by omega)
      clear hp hq
      have b1 : (k : Int) < 8192 := by omega
      generalize hx : xs.getD k 0 = x at c0
      generalize hy : ys.getD k 0 = y at c1
      have HX : Hid (xs.getD k 0 = x) := hx
      have HY : Hid (ys.getD k 0 = y) := hy
      clear hx hy
      by_cases heq : x = y
      · have hn : (x != y) = false := by simpa using heq
        go_wp2
        go_quiet (fail)
        go_wp2
        go_roundw
        case rel =>
          refine ⟨k + 1, _, by omega, by go_num, rfl, fun t ht => ?_⟩
          by_cases e : t = k
          · subst e; rw [HX.out, HY.out]; exact heq
          · exact HP.out t (by omega)
        case measure => simp [intOf]; omega
      · have hn : (x != y) = true := by simpa using heq
        have HS : Hid (sameB xs ys = false) := sameB_false (fun e => heq (by rw [← HX.out, ← HY.out, e]))
        go_wp2
        go_quiet (fail)
        go_wp2
        go_ret
        exact ⟨by rw [HS.out]; rfl, _, World.drewN_drewN _ _ _⟩
    · have HS : Hid (sameB xs ys = true) := sameB_true (same_of_getD hx hy fun t ht => HP.out t (by omega))
      have b1 : ¬ (k : Int) < 8192 := by omega
      clear hp hq hx hy hlt
      go_wp2
      go_ret
      exact ⟨by rw [HS.out]; rfl, _, rfl⟩
end Go.Proofs.Qxb6612825a
