/-
  zzSameSlot where it answers yes.
-/
import Derived.Test.Qxb6612825aFmtBase2
import Derived.Test.Qxb6612825aFmtValid
namespace Go.Proofs.Qxb6612825aFmt
open Go.RowKit Go.Proofs.Qxb6612825aFmt.Big
set_option linter.unusedVariables false

/-- Slot i holds the same in both. -/
def SlotSame (xs ys : List Int) (i : Nat) : Prop :=
  (offOf xs i = 0 ∧ offOf ys i = 0) ∨
  (offOf xs i ≠ 0 ∧ offOf ys i ≠ 0 ∧ rawOf xs i = rawOf ys i ∧ ∀ k, k < lenOf xs i → xs.getD (offOf xs i + k) 0 = ys.getD (offOf ys i + k) 0)

set_option maxRecDepth 100000 in
set_option maxHeartbeats 1000000 in
theorem slot15 (p q : Nat) (ii : Int) (i : Nat) (xs ys : List Int) (w : World) (hi : ii = (i : Int)) (ex : ent xs i + 4 ≤ 8188) (ey : ent ys i + 4 ≤ 8188)
    (fx : offOf xs i ≠ 0 → offOf xs i + lenOf xs i ≤ 8188) (fy : offOf ys i ≠ 0 → offOf ys i + lenOf ys i ≤ 8188) (hs : SlotSame xs ys i) (hp : Blk w p xs) (hq : Blk w q ys) :
    Calls Tryf.prog 15 #[.pointer (some ⟨p, 0, none⟩), .pointer (some ⟨q, 0, none⟩), .int .i64 ii] w fun e w' => e = .returned (.bool true) ∧ ∃ n, w' = w.drewN n := by
  subst hi
  have HP : Hid (Blk w p xs) := hp
  have HQ : Hid (Blk w q ys) := hq
  have h1 := dir14 p xs w hp
  have h2 := fun n => dir14 q ys (w.drewN n) (hq.drewN n)
  have lx : (dirS xs : Int) + 4 * (i : Int) ≤ 8188 := by unfold ent at ex; omega
  have ly : (dirS ys : Int) + 4 * (i : Int) ≤ 8188 := by unfold ent at ey; omega
  have h3 : ∀ n, Calls Tryf.prog 7 #[.pointer (some ⟨p, 0, none⟩), .int .i64 ((dirS xs : Int) + 4 * (i : Int))] (w.drewN n) fun e w' => e = .returned (.int .i64 (offOf xs i : Nat)) ∧ ∃ m, w' = (w.drewN n).drewN m := fun n => zu7 p _ (ent xs i) xs _ (by unfold ent; omega) (by omega) (hp.drewN n)
  have h4 : ∀ n, Calls Tryf.prog 7 #[.pointer (some ⟨q, 0, none⟩), .int .i64 ((dirS ys : Int) + 4 * (i : Int))] (w.drewN n) fun e w' => e = .returned (.int .i64 (offOf ys i : Nat)) ∧ ∃ m, w' = (w.drewN n).drewN m := fun n => zu7 q _ (ent ys i) ys _ (by unfold ent; omega) (by omega) (hq.drewN n)
  have h5 : ∀ n, Calls Tryf.prog 7 #[.pointer (some ⟨p, 0, none⟩), .int .i64 ((dirS xs : Int) + 4 * (i : Int) + 2)] (w.drewN n) fun e w' => e = .returned (.int .i64 (rawOf xs i : Nat)) ∧ ∃ m, w' = (w.drewN n).drewN m := fun n => zu7 p _ (ent xs i + 2) xs _ (by unfold ent; omega) (by omega) (hp.drewN n)
  have h6 : ∀ n, Calls Tryf.prog 7 #[.pointer (some ⟨q, 0, none⟩), .int .i64 ((dirS ys : Int) + 4 * (i : Int) + 2)] (w.drewN n) fun e w' => e = .returned (.int .i64 (rawOf ys i : Nat)) ∧ ∃ m, w' = (w.drewN n).drewN m := fun n => zu7 q _ (ent ys i + 2) ys _ (by unfold ent; omega) (by omega) (hq.drewN n)
  have lr : rawOf xs i < 65536 := hp.1.u16_lt _
  have hAN : bits .andNot .i64 (rawOf xs i : Int) 32768 = (lenOf xs i : Int) := i64_andNot_top _ lr
  have l1 : offOf xs i < 65536 := hp.1.u16_lt _
  have l2 : offOf ys i < 65536 := hq.1.u16_lt _
  clear ex ey hp hq
  go_enter Tryf.func15, Tryf.ntmps15
  go_wp2_with fail
  refine h1.mono ?_
  rintro e w1 ⟨rfl, q1, rfl⟩
  go_wp2_with fail
  refine (h2 _).mono ?_
  rintro e w1 ⟨rfl, q2, rfl⟩
  go_wp2_with fail
  refine (h3 _).mono ?_
  rintro e w1 ⟨rfl, q3, rfl⟩
  go_wp2_with fail
  refine (h4 _).mono ?_
  rintro e w1 ⟨rfl, q4, rfl⟩
  rcases hs with ⟨e1, e2⟩ | ⟨e1, e2, e3, e4⟩
  · have e1' : ((offOf xs i : Int) == 0) = true := by simp; omega
    have e2' : ((offOf ys i : Int) == 0) = true := by simp; omega
    clear e1 e2 fx fy
    go_wp2
    go_ret
    exact ⟨rfl, _, rfl⟩
  · have e1' : ((offOf xs i : Int) == 0) = false := by simp; omega
    have e2' : ((offOf ys i : Int) == 0) = false := by simp; omega
    have fx' := fx e1
    have fy' := fy e2
    have e5 : lenOf ys i = lenOf xs i := by unfold lenOf; rw [e3]
    rw [e5] at fy'
    have HE4 : Hid (∀ k, k < lenOf xs i → xs.getD (offOf xs i + k) 0 = ys.getD (offOf ys i + k) 0) := e4
    rw [← e3] at h6
    clear e1 e2 fx fy e3 e4 e5
    generalize offOf xs i = ox at *
    generalize offOf ys i = oy at *
    generalize lenOf xs i = n at *
    generalize rawOf xs i = r at *
    have hrr : ((r : Int) != (r : Int)) = false := by simp
    go_wp2_with fail
    refine (h5 _).mono ?_
    rintro e w1 ⟨rfl, q5, rfl⟩
    go_wp2_with fail
    refine (h6 _).mono ?_
    rintro e w1 ⟨rfl, q6, rfl⟩
    clear h1 h2 h3 h4 h5 h6
    go_wp2
    go_loopw [13] (fun ki wr => ∃ k m : Nat, k ≤ n ∧ ki = .int .i64 k ∧ wr = w.drewN m) (fun ki _ => n - (intOf ki).toNat)
    case atStart => exact ⟨0, _, by omega, rfl, rfl⟩
    case round =>
      obtain ⟨k, m, hk, rfl, rfl⟩ := hrel
      by_cases hlt : k < n
      · have c0 := HP.out.cell (ox + k) (by omega)
        have c1 := HQ.out.cell (oy + k) (by omega)
        rw [← HE4.out k hlt] at c1
        generalize xs.getD (ox + k) 0 = x at c0 c1
        have hn : (x != x) = false := by simp
        have b1 : (ox : Int) + (k : Int) < 8192 := by omega
        have b2 : (oy : Int) + (k : Int) < 8192 := by omega
        go_wp2
        go_quiet (fail)
        go_wp2
        go_roundw
        case rel => exact ⟨k + 1, _, by omega, by go_num, rfl⟩
        case measure => simp [intOf]; omega
      · go_wp2
        go_ret
        exact ⟨rfl, _, rfl⟩
end Go.Proofs.Qxb6612825aFmt
