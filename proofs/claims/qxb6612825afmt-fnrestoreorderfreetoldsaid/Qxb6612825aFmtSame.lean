/-
  zzFree, zzSameBytes, zzSameHeader, zzSameSlot: the last three where they answer yes.
-/
import Derived.Test.Qxb6612825aFmtBase2
import Derived.Test.Qxb6612825aFmtValid
namespace Go.Proofs.Qxb6612825aFmt
open Go.RowKit Go.Proofs.Qxb6612825aFmt.Big
set_option linter.unusedVariables false

set_option maxRecDepth 100000 in
set_option maxHeartbeats 1000000 in
theorem free9 (g : Nat) (zs : List Int) (w : World) (hd : ent zs (nRows zs) ≤ 8188) (H : Blk w g zs) :
    Calls Tryf.prog 9 #[.pointer (some ⟨g, 0, none⟩)] w fun e w' => e = .returned (.int .i64 (8188 - (ent zs (nRows zs) : Int) - (live zs (nRows zs) : Int))) ∧ ∃ q, w' = w.drewN q := by
  have l16 : nRows zs < 65536 := H.1.u16_lt 16
  have HE : Hid (ent zs (nRows zs) = dirS zs + 4 * nRows zs) := rfl
  have ld : (dirS zs : Int) + 4 * (nRows zs : Int) ≤ 8188 := by rw [HE.out] at hd; omega
  have hD := dir14 g zs w H
  have hN : ∀ q, Calls Tryf.prog 7 #[.pointer (some ⟨g, 0, none⟩), .int .i64 16] (w.drewN q) fun e w' => e = .returned (.int .i64 (nRows zs : Nat)) ∧ ∃ p, w' = (w.drewN q).drewN p := fun q => zu7 g 16 16 zs _ rfl (by omega) (H.drewN q)
  have HH : Hid (Blk w g zs) := H
  clear H hd
  go_enter Tryf.func9, Tryf.ntmps9
  go_wp2_with fail
  refine hD.mono ?_
  rintro e w1 ⟨rfl, q1, rfl⟩
  go_wp2_with fail
  refine (hN _).mono ?_
  rintro e w2 ⟨rfl, q2, rfl⟩
  clear hD hN
  go_wp2
  go_loopw [5, 6] (fun lv ii wr => ∃ i q : Nat, i ≤ nRows zs ∧ ii = .int .i64 i ∧ lv = .int .i64 (live zs i : Nat) ∧ wr = w.drewN q) (fun _ ii _ => nRows zs - (intOf ii).toNat)
  case atStart => exact ⟨0, _, Nat.zero_le _, rfl, rfl, rfl⟩
  case round =>
    obtain ⟨i, q, hi, rfl, rfl, rfl⟩ := hrel
    have ll := live_le zs i
    by_cases hlt : i < nRows zs
    · have he : dirS zs + 4 * i + 4 ≤ 8188 := by omega
      have hO : Calls Tryf.prog 7 #[.pointer (some ⟨g, 0, none⟩), .int .i64 ((dirS zs : Int) + 4 * (i : Int))] (w.drewN q) fun e w' => e = .returned (.int .i64 (offOf zs i : Nat)) ∧ ∃ p, w' = (w.drewN q).drewN p := zu7 g _ (ent zs i) zs _ (by unfold ent; omega) (by unfold ent; omega) (HH.out.drewN q)
      have hR : ∀ q, Calls Tryf.prog 7 #[.pointer (some ⟨g, 0, none⟩), .int .i64 ((dirS zs : Int) + 4 * (i : Int) + 2)] (w.drewN q) fun e w' => e = .returned (.int .i64 (rawOf zs i : Nat)) ∧ ∃ p, w' = (w.drewN q).drewN p := fun q => zu7 g _ (ent zs i + 2) zs _ (by unfold ent; omega) (by unfold ent; omega) (HH.out.drewN q)
      have lr : rawOf zs i < 65536 := HH.out.1.u16_lt _
      have hAN : bits .andNot .i64 (rawOf zs i : Int) 32768 = (lenOf zs i : Int) := i64_andNot_top _ lr
      have hln : lenOf zs i < 32768 := by unfold lenOf; omega
      clear he
      by_cases c3 : offOf zs i = 0
      · have c3' : ((offOf zs i : Int) != 0) = false := by simp; omega
        have HLV : Hid (live zs (i + 1) = live zs i) := by show live zs i + _ = _; rw [if_pos c3]; rfl
        clear c3
        go_wp2_with fail
        refine hO.mono ?_
        rintro e w5 ⟨rfl, p1, rfl⟩
        go_wp2
        go_roundw
        case rel => exact ⟨i + 1, _, by omega, by go_num, by rw [HLV.out], rfl⟩
        case measure => simp [intOf]; omega
      · have c3' : ((offOf zs i : Int) != 0) = true := by simp; omega
        have HLV : Hid (live zs (i + 1) = live zs i + lenOf zs i) := by show live zs i + _ = _; rw [if_neg c3]
        clear c3
        go_wp2_with fail
        refine hO.mono ?_
        rintro e w5 ⟨rfl, p1, rfl⟩
        go_wp2_with fail
        refine (hR _).mono ?_
        rintro e w6 ⟨rfl, p2, rfl⟩
        go_wp2
        go_roundw
        case rel => exact ⟨i + 1, _, by omega, by go_num, by rw [HLV.out]; go_num, rfl⟩
        case measure => simp [intOf]; omega
    · obtain rfl : i = nRows zs := by omega
      go_wp2
      go_ret
      exact ⟨ret_int (by rw [HE.out]; omega), _, rfl⟩

set_option maxRecDepth 100000 in
set_option maxHeartbeats 400000 in
theorem same11 (p q : Nat) (zs : List Int) (w : World) (hp : Blk w p zs) (hq : Blk w q zs) :
    Calls Tryf.prog 11 #[.pointer (some ⟨p, 0, none⟩), .pointer (some ⟨q, 0, none⟩)] w fun e w' => e = .returned (.bool true) ∧ ∃ n, w' = w.drewN n := by
  have HP : Hid (Blk w p zs) := hp
  have HQ : Hid (Blk w q zs) := hq
  clear hp hq
  go_enter Tryf.func11, Tryf.ntmps11
  go_wp2
  go_loopw [5] (fun i wr => ∃ k n : Nat, k ≤ 8192 ∧ i = .int .i64 k ∧ wr = w.drewN n) (fun i _ => 8192 - (intOf i).toNat)
  case atStart => exact ⟨0, 0, by omega, rfl, rfl⟩
  case round =>
    obtain ⟨k, n, hk, rfl, rfl⟩ := hrel
    by_cases hlt : k < 8192
    · have c0 := HP.out.cell k hlt
      have c1 := HQ.out.cell k hlt
      have b1 : (k : Int) < 8192 := by omega
      generalize zs.getD k 0 = x at c0 c1
      have hn : (x != x) = false := by simp
      go_wp2
      go_quiet (fail)
      go_wp2
      go_roundw
      case rel => exact ⟨k + 1, _, by omega, by go_num, rfl⟩
      case measure => simp [intOf]; omega
    · have b1 : ¬ (k : Int) < 8192 := by omega
      clear hlt
      go_wp2
      go_ret
      exact ⟨rfl, _, rfl⟩

/-- The header up to the directory agrees, but for four fields; so does the trailer. -/
structure HdrSame (xs ys : List Int) : Prop where
  head : ∀ k, k < dirS xs → ¬ (16 ≤ k ∧ k < 20) → ¬ (28 ≤ k ∧ k < 32) → xs.getD k 0 = ys.getD k 0
  tail : ∀ k, 8188 ≤ k → k < 8192 → xs.getD k 0 = ys.getD k 0

set_option maxRecDepth 100000 in
set_option maxHeartbeats 1000000 in
theorem hdr12 (p q : Nat) (xs ys : List Int) (w : World) (hd : dirS xs ≤ 8188) (hs : HdrSame xs ys) (hp : Blk w p xs) (hq : Blk w q ys) :
    Calls Tryf.prog 12 #[.pointer (some ⟨p, 0, none⟩), .pointer (some ⟨q, 0, none⟩)] w fun e w' => e = .returned (.bool true) ∧ ∃ n, w' = w.drewN n := by
  have HP : Hid (Blk w p xs) := hp
  have HQ : Hid (Blk w q ys) := hq
  have hD := dir14 p xs w hp
  have HD : Hid (dirS xs ≤ 8188) := hd
  clear hp hq hd
  generalize hdd : dirS xs = d at *
  have HDD : Hid (dirS xs = d) := hdd
  clear hdd
  have hd8 : (d : Int) ≤ 8188 := by have := HD.out; omega
  go_enter Tryf.func12, Tryf.ntmps12
  go_wp2_with fail
  refine hD.mono ?_
  rintro e w1 ⟨rfl, q1, rfl⟩
  go_wp2
  go_loopw [6] (fun i wr => ∃ k n : Nat, k ≤ d ∧ i = .int .i64 k ∧ wr = w.drewN n) (fun i _ => d - (intOf i).toNat)
  case atStart => exact ⟨0, _, by omega, rfl, rfl⟩
  case round =>
    obtain ⟨k, n, hk, rfl, rfl⟩ := hrel
    by_cases hlt : k < d
    · by_cases z1 : 16 ≤ k ∧ k < 20
      · obtain ⟨z1, z2⟩ := z1
        go_wp2
        go_roundw
        case rel => exact ⟨k + 1, _, by omega, by go_num, rfl⟩
        case measure => simp [intOf]; omega
      by_cases z2 : 28 ≤ k ∧ k < 32
      · obtain ⟨z2, z3⟩ := z2
        have z4 : ¬ k < 20 := by omega
        clear z1
        go_wp2
        go_roundw
        case rel => exact ⟨k + 1, _, by omega, by go_num, rfl⟩
        case measure => simp [intOf]; omega
      have hl8 : k < 8192 := by have := HD.out; omega
      have c0 := HP.out.cell k hl8
      have c1 := HQ.out.cell k hl8
      rw [← hs.head k (by rw [HDD.out]; exact hlt) z1 z2] at c1
      generalize xs.getD k 0 = x at c0 c1
      have hn : (x != x) = false := by simp
      have b1 : (k : Int) < 8192 := by omega
      clear hl8
      have z : k < 16 ∨ (20 ≤ k ∧ k < 28) ∨ 32 ≤ k := by omega
      clear z1 z2
      rcases z with z | ⟨z, z'⟩ | z
      · go_wp2
        go_quiet (fail)
        go_wp2
        go_roundw
        case rel => exact ⟨k + 1, _, by omega, by go_num, rfl⟩
        case measure => simp [intOf]; omega
      · go_wp2
        go_quiet (fail)
        go_wp2
        go_roundw
        case rel => exact ⟨k + 1, _, by omega, by go_num, rfl⟩
        case measure => simp [intOf]; omega
      · go_wp2
        go_quiet (fail)
        go_wp2
        go_roundw
        case rel => exact ⟨k + 1, _, by omega, by go_num, rfl⟩
        case measure => simp [intOf]; omega
    · go_wp2
      go_loopw [7] (fun i wr => ∃ k n : Nat, 8188 ≤ k ∧ k ≤ 8192 ∧ i = .int .i64 k ∧ wr = w.drewN n) (fun i _ => 8192 - (intOf i).toNat)
      case atStart => exact ⟨8188, _, by omega, by omega, rfl, rfl⟩
      case round =>
        obtain ⟨j, n2, hj0, hj, rfl, rfl⟩ := hrel
        by_cases hjl : j < 8192
        · have c0 := HP.out.cell j hjl
          have c1 := HQ.out.cell j hjl
          rw [← hs.tail j hj0 hjl] at c1
          generalize xs.getD j 0 = x at c0 c1
          have hn : (x != x) = false := by simp
          have b1 : (j : Int) < 8192 := by omega
          go_wp2
          go_quiet (fail)
          go_wp2
          go_roundw
          case rel => exact ⟨j + 1, _, by omega, by omega, by go_num, rfl⟩
          case measure => simp [intOf]; omega
        · have b1 : ¬ (j : Int) < 8192 := by omega
          clear hjl
          go_wp2
          go_ret
          exact ⟨rfl, _, rfl⟩
end Go.Proofs.Qxb6612825aFmt
