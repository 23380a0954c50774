/-
  THE WALK OF FnAtLineStartSplitsAtAnyCut.
-/
import Derived.Test.Qxb6612677aInts
import Derived.WalkSmall
namespace Go.Proofs.Qxb6612677a
open Go.RowKit
set_option linter.unusedVariables false

set_option maxHeartbeats 1000000 in
theorem splits_walk (a0 : Option Addr) (len0 cap0 : Nat) (z0 : List Int) (a1 : Option Addr) (len1 cap1 : Nat) (z1 : List Int) (a2 : Int) (a3 : Bool) (a4 : Int) (a5 : Int) (a6 : Int) (a7 : Int) (a8 : Int) (w : World) (w0 : IsRow .u8 w a0 len0 cap0 z0) (w1 : IsRow .i64 w a1 len1 cap1 z1) (w2 : (Lit.int .i64 a2).wf = true) (w4 : (Lit.int .i64 a4).wf = true) (w5 : (Lit.int .i64 a5).wf = true) (w6 : (Lit.int .i64 a6).wf = true) (w7 : (Lit.int .i64 a7).wf = true) (w8 : (Lit.int .i64 a8).wf = true) :
    Calls Try.prog 5 #[.slice a0 len0 cap0, .slice a1 len1 cap1, .int .i64 a2, .bool a3, .int .i64 a4, .int .i64 a5, .int .i64 a6, .int .i64 a7, .int .i64 a8] w fun e w' => e = .returned (.bool true) ∧ Below w.heap.size w w' := by
  have m0 := rowLe w0
  have m1 := rowLe w1
  go_enter Try.func5, Try.ntmps5
  go_wp2_with fail
  refine (bytes13 _ _ _ _ _ _ _ _ _ _ _ _ _ _ m0 m1).mono ?_
  rintro e w' ⟨⟨b, rfl, hb⟩, hw⟩
  have hw := hw.symm
  subst hw
  cases b
  · go_wp2
    go_ret
    exact ⟨rfl, Below.refl _ _⟩
  have hb := hb rfl
  go_wp2_with fail
  refine (linesFit_any _ _ _ _ _ _ _ _ w1 (by omega) (by omega)).mono ?_
  rintro e w' ⟨⟨b, rfl, hs⟩, q, rfl⟩
  cases b
  · go_wp2
    go_ret
    exact ⟨rfl, below_drewN (Below.refl _ _) _⟩
  have hs := hs rfl
  by_cases hc1 : a8 < 0
  · go_wp2
    go_ret
    exact ⟨rfl, below_drewN (Below.refl _ _) _⟩
  by_cases hc2 : (len1 : Int) < a8
  · go_wp2
    go_ret
    exact ⟨rfl, below_drewN (Below.refl _ _) _⟩
  obtain ⟨cut, rfl⟩ := Int.eq_ofNat_of_zero_le (by omega : 0 ≤ a8)
  have hcut : cut ≤ len1 := by omega
  clear hc1 hc2 w2 w4 w5 w6 w7 w8 m0 m1
  have B1 : Below w.heap.size w (w.drewN q) := below_drewN (Below.refl _ _) _
  go_wp2_with fail
  refine (copyBytes_any _ _ _ _ _ (w0.below B1) (by omega)).mono ?_
  rintro e wa ⟨⟨b0, rfl⟩, B2⟩
  have B3 : Below w.heap.size w wa := B1.trans B2
  clear B1 B2
  go_wp2_with fail
  refine (copyInts_any _ _ _ _ _ (w1.below B3) (by omega)).mono ?_
  rintro e wb ⟨v, rfl, ⟨b1, rfl⟩, hown, B4⟩
  have B5 : Below w.heap.size w wb := B3.trans (B4.mono B3.size)
  clear w0 w1
  have hzero : len1 = 0 ∨ ∃ b, b1 = some ⟨b, 0, none⟩ ∧ 0 < len1 := by
    by_cases h0 : len1 = 0
    · exact .inl h0
    rcases hown.2 with ⟨_, h'⟩ | ⟨g, cap, cur, h', _⟩
    · exact absurd h' h0
    · simp only [Value.slice.injEq, true_and] at h'
      exact .inr ⟨g, h'.1, by omega⟩
  have I1 : Ints wb b1 len1 (z1.take len1) := ints_of_owns hown (by omega)
  clear hown
  generalize hL : z1.take len1 = L at *
  clear hL
  have I2 := I1.take cut hcut
  have hcase : len1 = 0 ∨ ∃ b, b1 = some ⟨b, 0, none⟩ ∧ 0 < len1 := hzero
  clear hzero
  have hs := hs True.intro
  have hss : (L.take cut).Pairwise (· ≤ ·) := List.Pairwise.take hs
  have hsd : (L.drop cut).Pairwise (· ≤ ·) := List.Pairwise.drop hs
  have HS := has_split L cut a7
  generalize hp : has (L.take cut) a7 = p at HS
  generalize hr : has (L.drop cut) a7 = r at HS
  rcases hcase with hz | ⟨b, hz1, hz2⟩
  · subst hz
    obtain rfl : cut = 0 := by omega
    have I3 : Ints wb b1 0 (L.drop 0) := I1
    go_wp2_with fail
    refine (newText _ _ _ _ _ _ _ _ _ _ _ _).mono ?_
    rintro e wc ⟨rfl, rfl⟩
    go_wp2_with fail
    refine (newText _ _ _ _ _ _ _ _ _ _ _ _).mono ?_
    rintro e wc ⟨rfl, rfl⟩
    go_wp2_with fail
    refine (newText _ _ _ _ _ _ _ _ _ _ _ _).mono ?_
    rintro e wc ⟨rfl, rfl⟩
    go_wp2_with fail
    generalize hW : ((wb.alloc _).alloc _).alloc _ = W
    have BW : Below wb.heap.size wb W := by rw [← hW]; exact (((Below.refl _ _).alloc (Nat.le_refl _) _).alloc (by simp) _).alloc (by simp; omega) _
    have BX : Below w.heap.size w W := B5.trans (BW.mono B5.size)
    have c1 : W.cell? ⟨wb.heap.size, 1, none⟩ = some (.slice b1 0 0) := by rw [← hW]; simp [go_sem]
    have c2 : W.cell? ⟨wb.heap.size + 1, 1, none⟩ = some (.slice b1 0 0) := by rw [← hW]; simp [go_sem]
    have c3 : W.cell? ⟨wb.heap.size + 1 + 1, 1, none⟩ = some (.slice b1 0 0) := by rw [← hW]; simp [go_sem]
    have J1 := I1.below BW
    have J2 := I2.below BW
    have J3 := I3.below BW
    clear I1 I2 I3 B3 B4 B5 BW hW
    refine (at18 _ _ _ _ L _ _ c1 J1 hs).mono ?_
    rintro e wc ⟨rfl, q1, rfl⟩
    rw [HS]
    go_wp2_with fail
    have HR : Hid (has L a7 = (p || r)) := HS
    clear HS
    go_loop [23, 24] (fun o j => ∃ k : Nat, k ≤ 0 ∧ j = .int .i64 k ∧ o = .bool (has (L.take k) a7)) (fun _ j => 0 - (intOf j).toNat)
    case atStart => exact ⟨0, Nat.zero_le _, rfl, rfl⟩
    case round =>
      obtain ⟨k, hk, rfl, rfl⟩ := hrel
      by_cases hlt : k < 0
      · obtain ⟨bb, off, hbo, hck⟩ := J1.cell k hlt
        have hsu := has_succ L k a7 (by rw [J1.1]; exact hlt)
        exact absurd hlt (by omega)
      · have hkl : L.take k = L := List.take_of_length_le (by have := J1.1; omega)
        rw [hkl, HR.out]
        go_wp2_with fail
        refine (at18 _ _ _ _ _ _ _ (by exact c2) (J2.below (by exact below_drewN (Below.refl _ _) _)) hss).mono ?_
        rintro e wc ⟨rfl, q2, rfl⟩
        rw [hp]
        go_wp2_with fail
        refine (at18 _ _ _ _ _ _ _ (by exact c3) (J3.below (by exact below_drewN (Below.refl _ _) _)) hsd).mono ?_
        rintro e wc ⟨rfl, q3, rfl⟩
        rw [hr]
        clear hp hr
        cases p <;> cases r
        all_goals
          go_wp2
          go_ret
          exact ⟨rfl, below_drewN BX _⟩
  subst hz1
  have I3 := I1.drop cut hcut
  rw [Nat.zero_add] at I3
  rcases Nat.lt_or_ge cut len1 with hcl | hcl
  · -- within
    go_wp2_with fail
    refine (newText _ _ _ _ _ _ _ _ _ _ _ _).mono ?_
    rintro e wc ⟨rfl, rfl⟩
    go_wp2_with fail
    refine (newText _ _ _ _ _ _ _ _ _ _ _ _).mono ?_
    rintro e wc ⟨rfl, rfl⟩
    go_wp2_with fail
    refine (newText _ _ _ _ _ _ _ _ _ _ _ _).mono ?_
    rintro e wc ⟨rfl, rfl⟩
    go_wp2_with fail
    generalize hW : ((wb.alloc _).alloc _).alloc _ = W
    have BW : Below wb.heap.size wb W := by rw [← hW]; exact (((Below.refl _ _).alloc (Nat.le_refl _) _).alloc (by simp) _).alloc (by simp; omega) _
    have BX : Below w.heap.size w W := B5.trans (BW.mono B5.size)
    have c1 : W.cell? ⟨wb.heap.size, 1, none⟩ = some (.slice (some ⟨b, 0, none⟩) len1 len1) := by rw [← hW]; simp [go_sem]
    have c2 : W.cell? ⟨wb.heap.size + 1, 1, none⟩ = some (.slice (some ⟨b, 0, none⟩) cut len1) := by rw [← hW]; simp [go_sem]
    have c3 : W.cell? ⟨wb.heap.size + 1 + 1, 1, none⟩ = some (.slice (some ⟨b, cut, none⟩) (len1 - cut) (len1 - cut)) := by rw [← hW]; simp [go_sem]
    have J1 := I1.below BW
    have J2 := I2.below BW
    have J3 := I3.below BW
    clear I1 I2 I3 B3 B4 B5 BW hW
    refine (at18 _ _ _ _ L _ _ c1 J1 hs).mono ?_
    rintro e wc ⟨rfl, q1, rfl⟩
    rw [HS]
    go_wp2_with fail
    have HR : Hid (has L a7 = (p || r)) := HS
    clear HS
    go_loop [23, 24] (fun o j => ∃ k : Nat, k ≤ len1 ∧ j = .int .i64 k ∧ o = .bool (has (L.take k) a7)) (fun _ j => len1 - (intOf j).toNat)
    case atStart => exact ⟨0, Nat.zero_le _, rfl, rfl⟩
    case round =>
      obtain ⟨k, hk, rfl, rfl⟩ := hrel
      by_cases hlt : k < len1
      · obtain ⟨bb, off, hbo, hck⟩ := J1.cell k hlt
        have hsu := has_succ L k a7 (by rw [J1.1]; exact hlt)
        simp only [Option.some.injEq, Addr.mk.injEq, and_true] at hbo
        obtain ⟨rfl, rfl⟩ := hbo
        rw [Nat.zero_add] at hck
        have HU : Hid (has (L.take (k + 1)) a7 = (has (L.take k) a7 || (L.getD k 0 == a7))) := hsu
        clear hsu
        by_cases hv : L.getD k 0 = a7
        · have hv' : (L[k]?.getD 0 == a7) = true := by simpa using hv
          go_wp2
          go_round
          case rel => exact ⟨k + 1, by omega, by go_num, by rw [HU.out]; simp [hv']⟩
          case measure => simp [intOf]; omega
        · have hv' : (L[k]?.getD 0 == a7) = false := by simpa using hv
          go_wp2
          go_round
          case rel => exact ⟨k + 1, by omega, by go_num, by rw [HU.out]; simp [hv']⟩
          case measure => simp [intOf]; omega
      · have hkl : L.take k = L := List.take_of_length_le (by have := J1.1; omega)
        rw [hkl, HR.out]
        go_wp2_with fail
        refine (at18 _ _ _ _ _ _ _ (by exact c2) (J2.below (by exact below_drewN (Below.refl _ _) _)) hss).mono ?_
        rintro e wc ⟨rfl, q2, rfl⟩
        rw [hp]
        go_wp2_with fail
        refine (at18 _ _ _ _ _ _ _ (by exact c3) (J3.below (by exact below_drewN (Below.refl _ _) _)) hsd).mono ?_
        rintro e wc ⟨rfl, q3, rfl⟩
        rw [hr]
        clear hp hr
        cases p <;> cases r
        all_goals
          go_wp2
          go_ret
          exact ⟨rfl, below_drewN BX _⟩
  · obtain rfl : cut = len1 := by omega
    have I3 : Ints wb (some ⟨b, 0, none⟩) 0 (L.drop cut) := ⟨by have := I1.1; simp; omega, by omega, .inl rfl⟩
    go_wp2_with fail
    refine (newText _ _ _ _ _ _ _ _ _ _ _ _).mono ?_
    rintro e wc ⟨rfl, rfl⟩
    go_wp2_with fail
    refine (newText _ _ _ _ _ _ _ _ _ _ _ _).mono ?_
    rintro e wc ⟨rfl, rfl⟩
    go_wp2_with fail
    refine (newText _ _ _ _ _ _ _ _ _ _ _ _).mono ?_
    rintro e wc ⟨rfl, rfl⟩
    go_wp2_with fail
    generalize hW : ((wb.alloc _).alloc _).alloc _ = W
    have BW : Below wb.heap.size wb W := by rw [← hW]; exact (((Below.refl _ _).alloc (Nat.le_refl _) _).alloc (by simp) _).alloc (by simp; omega) _
    have BX : Below w.heap.size w W := B5.trans (BW.mono B5.size)
    have c1 : W.cell? ⟨wb.heap.size, 1, none⟩ = some (.slice (some ⟨b, 0, none⟩) cut cut) := by rw [← hW]; simp [go_sem]
    have c2 : W.cell? ⟨wb.heap.size + 1, 1, none⟩ = some (.slice (some ⟨b, 0, none⟩) cut cut) := by rw [← hW]; simp [go_sem]
    have c3 : W.cell? ⟨wb.heap.size + 1 + 1, 1, none⟩ = some (.slice (some ⟨b, 0, none⟩) 0 0) := by rw [← hW]; simp [go_sem]
    have J1 := I1.below BW
    have J2 := I2.below BW
    have J3 := I3.below BW
    clear I1 I2 I3 B3 B4 B5 BW hW
    refine (at18 _ _ _ _ L _ _ c1 J1 hs).mono ?_
    rintro e wc ⟨rfl, q1, rfl⟩
    rw [HS]
    go_wp2_with fail
    have HR : Hid (has L a7 = (p || r)) := HS
    clear HS
    go_loop [23, 24] (fun o j => ∃ k : Nat, k ≤ cut ∧ j = .int .i64 k ∧ o = .bool (has (L.take k) a7)) (fun _ j => cut - (intOf j).toNat)
    case atStart => exact ⟨0, Nat.zero_le _, rfl, rfl⟩
    case round =>
      obtain ⟨k, hk, rfl, rfl⟩ := hrel
      by_cases hlt : k < cut
      · obtain ⟨bb, off, hbo, hck⟩ := J1.cell k hlt
        have hsu := has_succ L k a7 (by rw [J1.1]; exact hlt)
        simp only [Option.some.injEq, Addr.mk.injEq, and_true] at hbo
        obtain ⟨rfl, rfl⟩ := hbo
        rw [Nat.zero_add] at hck
        have HU : Hid (has (L.take (k + 1)) a7 = (has (L.take k) a7 || (L.getD k 0 == a7))) := hsu
        clear hsu
        by_cases hv : L.getD k 0 = a7
        · have hv' : (L[k]?.getD 0 == a7) = true := by simpa using hv
          go_wp2
          go_round
          case rel => exact ⟨k + 1, by omega, by go_num, by rw [HU.out]; simp [hv']⟩
          case measure => simp [intOf]; omega
        · have hv' : (L[k]?.getD 0 == a7) = false := by simpa using hv
          go_wp2
          go_round
          case rel => exact ⟨k + 1, by omega, by go_num, by rw [HU.out]; simp [hv']⟩
          case measure => simp [intOf]; omega
      · have hkl : L.take k = L := List.take_of_length_le (by have := J1.1; omega)
        rw [hkl, HR.out]
        go_wp2_with fail
        refine (at18 _ _ _ _ _ _ _ (by exact c2) (J2.below (by exact below_drewN (Below.refl _ _) _)) hss).mono ?_
        rintro e wc ⟨rfl, q2, rfl⟩
        rw [hp]
        go_wp2_with fail
        refine (at18 _ _ _ _ _ _ _ (by exact c3) (J3.below (by exact below_drewN (Below.refl _ _) _)) hsd).mono ?_
        rintro e wc ⟨rfl, q3, rfl⟩
        rw [hr]
        clear hp hr
        cases p <;> cases r
        all_goals
          go_wp2
          go_ret
          exact ⟨rfl, below_drewN BX _⟩
end Go.Proofs.Qxb6612677a
