/-
  THE WALK OF FnAtLineStartAfterALineStartIsAdded.
-/
import Derived.Test.Qxb6612677aGrown
import Derived.WalkSmall
namespace Go.Proofs.Qxb6612677a
open Go.RowKit
set_option linter.unusedVariables false

set_option maxHeartbeats 4000000 in
theorem added_walk (a0 : Option Addr) (len0 cap0 : Nat) (z0 : List Int) (a1 : Option Addr) (len1 cap1 : Nat) (z1 : List Int) (a2 : Int) (a3 : Bool) (a4 : Int) (a5 : Int) (a6 : Int) (a7 : Int) (a8 : Int) (w : World) (w0 : IsRow .u8 w a0 len0 cap0 z0) (w1 : IsRow .i64 w a1 len1 cap1 z1) (w2 : (Lit.int .i64 a2).wf = true) (w4 : (Lit.int .i64 a4).wf = true) (w5 : (Lit.int .i64 a5).wf = true) (w6 : (Lit.int .i64 a6).wf = true) (w7 : (Lit.int .i64 a7).wf = true) (w8 : (Lit.int .i64 a8).wf = true) :
    Calls Try.prog 6 #[.slice a0 len0 cap0, .slice a1 len1 cap1, .int .i64 a2, .bool a3, .int .i64 a4, .int .i64 a5, .int .i64 a6, .int .i64 a7, .int .i64 a8] w fun e w' => e = .returned (.bool true) ∧ Below w.heap.size w w' := by
  have m0 := rowLe w0
  have m1 := rowLe w1
  go_enter Try.func6, Try.ntmps6
  go_wp2_with fail
  refine (bytes19 _ _ _ _ _ _ _ _ _ _ _ _ _ _ m0 m1).mono ?_
  rintro e w' ⟨⟨b, rfl, hb⟩, hw⟩
  have hw := hw.symm
  subst hw
  cases b
  · go_wp2
    go_ret
    exact ⟨rfl, Below.refl _ _⟩
  have hb := hb rfl
  go_wp2_with fail
  refine (linesFit_any _ _ _ _ _ _ _ _ w1 (by omega) (by omega)).mono ?_
  rintro e w' ⟨⟨b, rfl, hs⟩, q, rfl⟩
  cases b
  · go_wp2
    go_ret
    exact ⟨rfl, below_drewN (Below.refl _ _) _⟩
  have hs := hs rfl
  clear w2 w4 w5 w6 w7 w8 m0 m1
  have B1 : Below w.heap.size w (w.drewN q) := below_drewN (Below.refl _ _) _
  go_wp2_with fail
  refine (copyBytes_any _ _ _ _ _ (w0.below B1) (by omega)).mono ?_
  rintro e wa ⟨⟨b0, rfl⟩, B2⟩
  have B3 : Below w.heap.size w wa := B1.trans B2
  clear B1 B2
  go_wp2_with fail
  refine (copyInts_any _ _ _ _ _ (w1.below B3) (by omega)).mono ?_
  rintro e wb ⟨v, rfl, ⟨b1, rfl⟩, hown, B4⟩
  have B5 : Below w.heap.size w wb := B3.trans (B4.mono B3.size)
  clear w0 w1
  have hzero : len1 = 0 ∨ ∃ b, b1 = some ⟨b, 0, none⟩ ∧ 0 < len1 := by
    by_cases h0 : len1 = 0
    · exact .inl h0
    rcases hown.2 with ⟨_, h'⟩ | ⟨g, cap, cur, h', _⟩
    · exact absurd h' h0
    · simp only [Value.slice.injEq, true_and] at h'
      exact .inr ⟨g, h'.1, by omega⟩
  have I1 : Ints wb b1 len1 (z1.take len1) := ints_of_owns hown (by omega)
  clear hown B3 B4
  generalize hL : z1.take len1 = L at *
  clear hL
  have hs := hs True.intro
  have hb := hb True.intro
  obtain ⟨i0, hi, hz0, hz1, hz2⟩ := info_parts Try.info3
  rcases hzero with hz | ⟨b, hb1, hz⟩
  · subst hz
    go_wp2
    go_loop [19] (fun j => ∃ k : Nat, k ≤ 0 ∧ j = .int .i64 k ∧ ∀ t, t < k → L.getD t 0 < a8) (fun j => 0 - (intOf j).toNat)
    case atStart => exact ⟨0, Nat.zero_le _, rfl, fun t h => absurd h (Nat.not_lt_zero _)⟩
    case round =>
      obtain ⟨k, hk, rfl, hlo⟩ := hrel
      obtain rfl : k = 0 := by omega
      have HG : Hid (Cut L 0 a8) := ⟨hlo, fun t h1 h2 => by have := I1.1; omega⟩
      clear hlo
      go_wp2_with (refine wpList_make_own _ rfl (.const (.int .i64 0)) (.tmp 60) 37 rfl wb.heap.size 3 i0 (.int .i64 0) 1 Try.underlying37 hi hz0 hz1 .i64 .i64 (0 + 1 : Nat) (0 + 1) rfl rfl rfl (by rw [hz2]; omega) (by unfold maxLen; omega) (Nat.le_refl _) ?_; intro wg hog hgg)
      have BG : Below wb.heap.size wb wg := (Below.refl _ _).grown hgg (Nat.le_refl _) (fun k h => by cases h)
      clear hgg
      go_loopw [20, 21] (fun v j wr => ∃ m : Nat, m ≤ 0 ∧ j = .int .i64 m ∧ v = .slice (some ⟨wb.heap.size, 0, none⟩) m (0 + 1) ∧ wr.ownsRow wb.heap.size 3 1 (.slice (some ⟨wb.heap.size, 0, none⟩) m (0 + 1)) m ((L.take m).map (Value.int .i64)) ∧ Below wb.heap.size wb wr) (fun _ j _ => 0 - (intOf j).toNat)
      case atStart => exact ⟨0, Nat.zero_le _, rfl, rfl, hog, BG⟩
      case round =>
        obtain ⟨m, hm, rfl, rfl, hor, hbr⟩ := hrel
        by_cases hlt2 : m < 0
        · -- one more of those before
          exact absurd hlt2 (by omega)
        · obtain rfl : m = 0 := by omega
          go_wp2_with (at_builtin; refine wpList_append_fits _ rfl (.tmp 74) (.tmp 76) 37 rfl wb.heap.size 3 i0 1 Try.underlying37 hi hz1 wb.heap.size 0 (0 + 1) _ rfl (hor.alloc _) ⟨wr.heap.size, 0, none⟩ 1 1 [.int .i64 a8] rfl rfl (one_new _ _ _) (one_cell _ _) (by omega) ?_; intro w2 hor2 hg2)
          have B2 : Below wb.heap.size wb w2 := (hbr.alloc hbr.size _).grown hg2 (by have := hbr.size; simp; omega) (fun j h => by simp at h; omega)
          rw [map_snoc, ← put_take_start L 0 a8 (by rw [I1.1]; omega)] at hor2
          clear hor hbr hg2 BG hog
          go_loopw [20, 22] (fun v j wr => ∃ m : Nat, 0 ≤ m ∧ m ≤ 0 ∧ j = .int .i64 m ∧ v = .slice (some ⟨wb.heap.size, 0, none⟩) (m + 1) (0 + 1) ∧ wr.ownsRow wb.heap.size 3 1 (.slice (some ⟨wb.heap.size, 0, none⟩) (m + 1) (0 + 1)) (m + 1) (((put L 0 a8).take (m + 1)).map (Value.int .i64)) ∧ Below wb.heap.size wb wr) (fun _ j _ => 0 - (intOf j).toNat)
          case atStart => exact ⟨0, Nat.le_refl _, by omega, rfl, rfl, hor2, B2⟩
          case round =>
            clear hor2 B2
            obtain ⟨m, hkm, hm, rfl, rfl, hor, hbr⟩ := hrel
            by_cases hlt2 : m < 0
            · -- one more of those behind
              exact absurd hlt2 (by omega)
            · have hml : m = L.length := by have := I1.1; omega
              have hor' := hor
              rw [hml, put_take_all, ← hml] at hor'
              obtain rfl : m = 0 := by omega
              have IG := ints_of_owns' hor' (by omega)
              have BX := B5.trans (hbr.mono B5.size)
              have IL := I1.below hbr
              have hso := put_sorted hs HG.out
              have hself := has_put_self L 0 a8
              have hother := has_put_other L 0 a8 a7
              clear hor hor' HG I1 hml
              go_wp2_with fail
              refine (newText _ _ _ _ _ _ _ _ _ _ _ _).mono ?_
              rintro e wc ⟨rfl, rfl⟩
              go_wp2_with fail
              refine (newText _ _ _ _ _ _ _ _ _ _ _ _).mono ?_
              rintro e wc ⟨rfl, rfl⟩
              go_wp2_with fail
              generalize hW : (wr.alloc _).alloc _ = W
              have BW : Below wr.heap.size wr W := by rw [← hW]; exact ((Below.refl _ _).alloc (Nat.le_refl _) _).alloc (by simp) _
              have BY : Below w.heap.size w W := BX.trans (BW.mono BX.size)
              have c1 : W.cell? ⟨wr.heap.size, 1, none⟩ = some (.slice b1 0 0) := by rw [← hW]; simp [go_sem]
              have c2 : W.cell? ⟨wr.heap.size + 1, 1, none⟩ = some (.slice (some ⟨wb.heap.size, 0, none⟩) (0 + 1) (0 + 1)) := by rw [← hW]; simp [go_sem]
              have J1 := IL.below BW
              have J2 := IG.below BW
              clear hW BW IL IG hbr BX
              refine (at18 _ _ _ _ _ _ _ c2 J2 hso).mono ?_
              rintro e wc ⟨rfl, q1, rfl⟩
              rw [hself]
              by_cases hix : a7 = a8
              · have hix' : (a7 == a8) = true := by simpa using hix
                clear hix hother
                go_wp2
                go_ret
                exact ⟨rfl, below_drewN BY _⟩
              · have hix' : (a7 == a8) = false := by simpa using hix
                have hother := hother hix
                clear hix hself
                go_wp2_with fail
                refine (at18 _ _ _ _ _ _ _ (by exact c2) (J2.below (by exact below_drewN (Below.refl _ _) _)) hso).mono ?_
                rintro e wc ⟨rfl, q2, rfl⟩
                rw [hother]
                clear hother
                go_wp2_with fail
                refine (at18 _ _ _ _ L _ _ (by exact c1) (J1.below (by exact below_drewN (Below.refl _ _) _)) hs).mono ?_
                rintro e wc ⟨rfl, q3, rfl⟩
                generalize has L a7 = p
                cases p
                all_goals
                  go_wp2
                  go_ret
                  exact ⟨rfl, below_drewN BY _⟩


  · subst hb1
    go_wp2
    go_loop [19] (fun j => ∃ k : Nat, k ≤ len1 ∧ j = .int .i64 k ∧ ∀ t, t < k → L.getD t 0 < a8) (fun j => len1 - (intOf j).toNat)
    case atStart => exact ⟨0, Nat.zero_le _, rfl, fun t h => absurd h (Nat.not_lt_zero _)⟩
    case round =>
      obtain ⟨k, hk, rfl, hlo⟩ := hrel
      have HL : Hid (∀ t, t < k → L.getD t 0 < a8) := hlo
      clear hlo
      by_cases hlt : k < len1
      · obtain ⟨b', off', hbo, hck⟩ := I1.cell k hlt
        simp only [Option.some.injEq, Addr.mk.injEq, and_true] at hbo
        obtain ⟨rfl, rfl⟩ := hbo
        rw [Nat.zero_add] at hck
        by_cases hv : L.getD k 0 < a8
        · have hv' : L[k]?.getD 0 < a8 := by simpa using hv
          go_wp2
          go_round
          case rel => 
            refine ⟨k + 1, by omega, by go_num, fun t ht => ?_⟩
            by_cases e : t = k
            · subst e; exact hv
            · exact HL.out t (by omega)
          case measure => simp [intOf]; omega
        · have hv' : ¬ L[k]?.getD 0 < a8 := by simpa using hv
          have HG : Hid (Cut L k a8) := ⟨HL.out, cut_hi hs (by rw [I1.1]; exact hlt) hv⟩
          clear HL hv
          go_wp2_with (refine wpList_make_own _ rfl (.const (.int .i64 0)) (.tmp 60) 37 rfl wb.heap.size 3 i0 (.int .i64 0) 1 Try.underlying37 hi hz0 hz1 .i64 .i64 (len1 + 1 : Nat) (len1 + 1) rfl rfl rfl (by rw [hz2]; omega) (by unfold maxLen; omega) (Nat.le_refl _) ?_; intro wg hog hgg)
          have BG : Below wb.heap.size wb wg := (Below.refl _ _).grown hgg (Nat.le_refl _) (fun k h => by cases h)
          clear hgg
          go_loopw [20, 21] (fun v j wr => ∃ m : Nat, m ≤ k ∧ j = .int .i64 m ∧ v = .slice (some ⟨wb.heap.size, 0, none⟩) m (len1 + 1) ∧ wr.ownsRow wb.heap.size 3 1 (.slice (some ⟨wb.heap.size, 0, none⟩) m (len1 + 1)) m ((L.take m).map (Value.int .i64)) ∧ Below wb.heap.size wb wr) (fun _ j _ => k - (intOf j).toNat)
          case atStart => exact ⟨0, Nat.zero_le _, rfl, rfl, hog, BG⟩
          case round =>
            obtain ⟨m, hm, rfl, rfl, hor, hbr⟩ := hrel
            by_cases hlt2 : m < k
            · -- one more of those before
              obtain ⟨b', off', hbo, hck2⟩ := I1.cell m (by omega)
              simp only [Option.some.injEq, Addr.mk.injEq, and_true] at hbo
              obtain ⟨rfl, rfl⟩ := hbo
              rw [Nat.zero_add] at hck2
              have hck3 : wr.cell? ⟨b, m, none⟩ = some (.int .i64 (L.getD m 0)) := by rw [hbr.cell (block_lt_of_cell hck2)]; exact hck2
              clear hck2

              go_wp2_with (at_builtin; refine wpList_append_fits _ rfl (.tmp 67) (.tmp 72) 37 rfl wb.heap.size 3 i0 1 Try.underlying37 hi hz1 wb.heap.size m (len1 + 1) _ rfl (hor.alloc _) ⟨wr.heap.size, 0, none⟩ 1 1 [.int .i64 (L.getD m 0)] rfl rfl (one_new _ _ _) (one_cell _ _) (by omega) ?_; intro w2 hor2 hg2)
              have B2 : Below wb.heap.size wb w2 := (hbr.alloc hbr.size _).grown hg2 (by have := hbr.size; simp; omega) (fun j h => by simp at h; omega)
              rw [take_map_succ L m (by rw [I1.1]; omega)] at hor2
              go_wp2
              go_roundw
              case rel => exact ⟨m + 1, by omega, by go_num, by first | rfl | go_num, hor2, B2⟩
              case measure => simp [intOf]; omega

            · obtain rfl : k = m := by omega
              go_wp2_with (at_builtin; refine wpList_append_fits _ rfl (.tmp 74) (.tmp 76) 37 rfl wb.heap.size 3 i0 1 Try.underlying37 hi hz1 wb.heap.size k (len1 + 1) _ rfl (hor.alloc _) ⟨wr.heap.size, 0, none⟩ 1 1 [.int .i64 a8] rfl rfl (one_new _ _ _) (one_cell _ _) (by omega) ?_; intro w2 hor2 hg2)
              have B2 : Below wb.heap.size wb w2 := (hbr.alloc hbr.size _).grown hg2 (by have := hbr.size; simp; omega) (fun j h => by simp at h; omega)
              rw [map_snoc, ← put_take_start L k a8 (by rw [I1.1]; omega)] at hor2
              clear hor hbr hg2 BG hog
              go_loopw [20, 22] (fun v j wr => ∃ m : Nat, k ≤ m ∧ m ≤ len1 ∧ j = .int .i64 m ∧ v = .slice (some ⟨wb.heap.size, 0, none⟩) (m + 1) (len1 + 1) ∧ wr.ownsRow wb.heap.size 3 1 (.slice (some ⟨wb.heap.size, 0, none⟩) (m + 1) (len1 + 1)) (m + 1) (((put L k a8).take (m + 1)).map (Value.int .i64)) ∧ Below wb.heap.size wb wr) (fun _ j _ => len1 - (intOf j).toNat)
              case atStart => exact ⟨k, Nat.le_refl _, by omega, rfl, rfl, hor2, B2⟩
              case round =>
                clear hor2 B2
                obtain ⟨m, hkm, hm, rfl, rfl, hor, hbr⟩ := hrel
                by_cases hlt2 : m < len1
                · -- one more of those behind
                  obtain ⟨b', off', hbo, hck2⟩ := I1.cell m (by omega)
                  simp only [Option.some.injEq, Addr.mk.injEq, and_true] at hbo
                  obtain ⟨rfl, rfl⟩ := hbo
                  rw [Nat.zero_add] at hck2
                  have hck3 : wr.cell? ⟨b, m, none⟩ = some (.int .i64 (L.getD m 0)) := by rw [hbr.cell (block_lt_of_cell hck2)]; exact hck2
                  clear hck2

                  go_wp2_with (at_builtin; refine wpList_append_fits _ rfl (.tmp 85) (.tmp 90) 37 rfl wb.heap.size 3 i0 1 Try.underlying37 hi hz1 wb.heap.size (m + 1) (len1 + 1) _ rfl (hor.alloc _) ⟨wr.heap.size, 0, none⟩ 1 1 [.int .i64 (L.getD m 0)] rfl rfl (one_new _ _ _) (one_cell _ _) (by omega) ?_; intro w2 hor2 hg2)
                  have B2 : Below wb.heap.size wb w2 := (hbr.alloc hbr.size _).grown hg2 (by have := hbr.size; simp; omega) (fun j h => by simp at h; omega)
                  rw [map_snoc, ← put_take_succ L k m a8 hkm (by rw [I1.1]; omega)] at hor2
                  go_wp2
                  go_roundw
                  case rel => exact ⟨m + 1, by omega, by omega, by go_num, by first | rfl | go_num, hor2, B2⟩
                  case measure => simp [intOf]; omega

                · have hml : m = L.length := by have := I1.1; omega
                  have hor' := hor
                  rw [hml, put_take_all, ← hml] at hor'
                  obtain rfl : len1 = m := by omega
                  have IG := ints_of_owns' hor' (by omega)
                  have BX := B5.trans (hbr.mono B5.size)
                  have IL := I1.below hbr
                  have hso := put_sorted hs HG.out
                  have hself := has_put_self L k a8
                  have hother := has_put_other L k a8 a7
                  clear hor hor' HG I1 hml
                  go_wp2_with fail
                  refine (newText _ _ _ _ _ _ _ _ _ _ _ _).mono ?_
                  rintro e wc ⟨rfl, rfl⟩
                  go_wp2_with fail
                  refine (newText _ _ _ _ _ _ _ _ _ _ _ _).mono ?_
                  rintro e wc ⟨rfl, rfl⟩
                  go_wp2_with fail
                  generalize hW : (wr.alloc _).alloc _ = W
                  have BW : Below wr.heap.size wr W := by rw [← hW]; exact ((Below.refl _ _).alloc (Nat.le_refl _) _).alloc (by simp) _
                  have BY : Below w.heap.size w W := BX.trans (BW.mono BX.size)
                  have c1 : W.cell? ⟨wr.heap.size, 1, none⟩ = some (.slice (some ⟨b, 0, none⟩) len1 len1) := by rw [← hW]; simp [go_sem]
                  have c2 : W.cell? ⟨wr.heap.size + 1, 1, none⟩ = some (.slice (some ⟨wb.heap.size, 0, none⟩) (len1 + 1) (len1 + 1)) := by rw [← hW]; simp [go_sem]
                  have J1 := IL.below BW
                  have J2 := IG.below BW
                  clear hW BW IL IG hbr BX
                  refine (at18 _ _ _ _ _ _ _ c2 J2 hso).mono ?_
                  rintro e wc ⟨rfl, q1, rfl⟩
                  rw [hself]
                  by_cases hix : a7 = a8
                  · have hix' : (a7 == a8) = true := by simpa using hix
                    clear hix hother
                    go_wp2
                    go_ret
                    exact ⟨rfl, below_drewN BY _⟩
                  · have hix' : (a7 == a8) = false := by simpa using hix
                    have hother := hother hix
                    clear hix hself
                    go_wp2_with fail
                    refine (at18 _ _ _ _ _ _ _ (by exact c2) (J2.below (by exact below_drewN (Below.refl _ _) _)) hso).mono ?_
                    rintro e wc ⟨rfl, q2, rfl⟩
                    rw [hother]
                    clear hother
                    go_wp2_with fail
                    refine (at18 _ _ _ _ L _ _ (by exact c1) (J1.below (by exact below_drewN (Below.refl _ _) _)) hs).mono ?_
                    rintro e wc ⟨rfl, q3, rfl⟩
                    generalize has L a7 = p
                    cases p
                    all_goals
                      go_wp2
                      go_ret
                      exact ⟨rfl, below_drewN BY _⟩

      · have HG : Hid (Cut L k a8) := ⟨HL.out, fun t h1 h2 => by have := I1.1; omega⟩
        clear HL
        go_wp2_with (refine wpList_make_own _ rfl (.const (.int .i64 0)) (.tmp 60) 37 rfl wb.heap.size 3 i0 (.int .i64 0) 1 Try.underlying37 hi hz0 hz1 .i64 .i64 (len1 + 1 : Nat) (len1 + 1) rfl rfl rfl (by rw [hz2]; omega) (by unfold maxLen; omega) (Nat.le_refl _) ?_; intro wg hog hgg)
        have BG : Below wb.heap.size wb wg := (Below.refl _ _).grown hgg (Nat.le_refl _) (fun k h => by cases h)
        clear hgg
        go_loopw [20, 21] (fun v j wr => ∃ m : Nat, m ≤ k ∧ j = .int .i64 m ∧ v = .slice (some ⟨wb.heap.size, 0, none⟩) m (len1 + 1) ∧ wr.ownsRow wb.heap.size 3 1 (.slice (some ⟨wb.heap.size, 0, none⟩) m (len1 + 1)) m ((L.take m).map (Value.int .i64)) ∧ Below wb.heap.size wb wr) (fun _ j _ => k - (intOf j).toNat)
        case atStart => exact ⟨0, Nat.zero_le _, rfl, rfl, hog, BG⟩
        case round =>
          obtain ⟨m, hm, rfl, rfl, hor, hbr⟩ := hrel
          by_cases hlt2 : m < k
          · -- one more of those before
            obtain ⟨b', off', hbo, hck2⟩ := I1.cell m (by omega)
            simp only [Option.some.injEq, Addr.mk.injEq, and_true] at hbo
            obtain ⟨rfl, rfl⟩ := hbo
            rw [Nat.zero_add] at hck2
            have hck3 : wr.cell? ⟨b, m, none⟩ = some (.int .i64 (L.getD m 0)) := by rw [hbr.cell (block_lt_of_cell hck2)]; exact hck2
            clear hck2

            go_wp2_with (at_builtin; refine wpList_append_fits _ rfl (.tmp 67) (.tmp 72) 37 rfl wb.heap.size 3 i0 1 Try.underlying37 hi hz1 wb.heap.size m (len1 + 1) _ rfl (hor.alloc _) ⟨wr.heap.size, 0, none⟩ 1 1 [.int .i64 (L.getD m 0)] rfl rfl (one_new _ _ _) (one_cell _ _) (by omega) ?_; intro w2 hor2 hg2)
            have B2 : Below wb.heap.size wb w2 := (hbr.alloc hbr.size _).grown hg2 (by have := hbr.size; simp; omega) (fun j h => by simp at h; omega)
            rw [take_map_succ L m (by rw [I1.1]; omega)] at hor2
            go_wp2
            go_roundw
            case rel => exact ⟨m + 1, by omega, by go_num, by first | rfl | go_num, hor2, B2⟩
            case measure => simp [intOf]; omega

          · obtain rfl : k = m := by omega
            go_wp2_with (at_builtin; refine wpList_append_fits _ rfl (.tmp 74) (.tmp 76) 37 rfl wb.heap.size 3 i0 1 Try.underlying37 hi hz1 wb.heap.size k (len1 + 1) _ rfl (hor.alloc _) ⟨wr.heap.size, 0, none⟩ 1 1 [.int .i64 a8] rfl rfl (one_new _ _ _) (one_cell _ _) (by omega) ?_; intro w2 hor2 hg2)
            have B2 : Below wb.heap.size wb w2 := (hbr.alloc hbr.size _).grown hg2 (by have := hbr.size; simp; omega) (fun j h => by simp at h; omega)
            rw [map_snoc, ← put_take_start L k a8 (by rw [I1.1]; omega)] at hor2
            clear hor hbr hg2 BG hog
            go_loopw [20, 22] (fun v j wr => ∃ m : Nat, k ≤ m ∧ m ≤ len1 ∧ j = .int .i64 m ∧ v = .slice (some ⟨wb.heap.size, 0, none⟩) (m + 1) (len1 + 1) ∧ wr.ownsRow wb.heap.size 3 1 (.slice (some ⟨wb.heap.size, 0, none⟩) (m + 1) (len1 + 1)) (m + 1) (((put L k a8).take (m + 1)).map (Value.int .i64)) ∧ Below wb.heap.size wb wr) (fun _ j _ => len1 - (intOf j).toNat)
            case atStart => exact ⟨k, Nat.le_refl _, by omega, rfl, rfl, hor2, B2⟩
            case round =>
              clear hor2 B2
              obtain ⟨m, hkm, hm, rfl, rfl, hor, hbr⟩ := hrel
              by_cases hlt2 : m < len1
              · -- one more of those behind
                exact absurd hlt2 (by omega)
              · have hml : m = L.length := by have := I1.1; omega
                have hor' := hor
                rw [hml, put_take_all, ← hml] at hor'
                obtain rfl : len1 = m := by omega
                have IG := ints_of_owns' hor' (by omega)
                have BX := B5.trans (hbr.mono B5.size)
                have IL := I1.below hbr
                have hso := put_sorted hs HG.out
                have hself := has_put_self L k a8
                have hother := has_put_other L k a8 a7
                clear hor hor' HG I1 hml
                go_wp2_with fail
                refine (newText _ _ _ _ _ _ _ _ _ _ _ _).mono ?_
                rintro e wc ⟨rfl, rfl⟩
                go_wp2_with fail
                refine (newText _ _ _ _ _ _ _ _ _ _ _ _).mono ?_
                rintro e wc ⟨rfl, rfl⟩
                go_wp2_with fail
                generalize hW : (wr.alloc _).alloc _ = W
                have BW : Below wr.heap.size wr W := by rw [← hW]; exact ((Below.refl _ _).alloc (Nat.le_refl _) _).alloc (by simp) _
                have BY : Below w.heap.size w W := BX.trans (BW.mono BX.size)
                have c1 : W.cell? ⟨wr.heap.size, 1, none⟩ = some (.slice (some ⟨b, 0, none⟩) len1 len1) := by rw [← hW]; simp [go_sem]
                have c2 : W.cell? ⟨wr.heap.size + 1, 1, none⟩ = some (.slice (some ⟨wb.heap.size, 0, none⟩) (len1 + 1) (len1 + 1)) := by rw [← hW]; simp [go_sem]
                have J1 := IL.below BW
                have J2 := IG.below BW
                clear hW BW IL IG hbr BX
                refine (at18 _ _ _ _ _ _ _ c2 J2 hso).mono ?_
                rintro e wc ⟨rfl, q1, rfl⟩
                rw [hself]
                by_cases hix : a7 = a8
                · have hix' : (a7 == a8) = true := by simpa using hix
                  clear hix hother
                  go_wp2
                  go_ret
                  exact ⟨rfl, below_drewN BY _⟩
                · have hix' : (a7 == a8) = false := by simpa using hix
                  have hother := hother hix
                  clear hix hself
                  go_wp2_with fail
                  refine (at18 _ _ _ _ _ _ _ (by exact c2) (J2.below (by exact below_drewN (Below.refl _ _) _)) hso).mono ?_
                  rintro e wc ⟨rfl, q2, rfl⟩
                  rw [hother]
                  clear hother
                  go_wp2_with fail
                  refine (at18 _ _ _ _ L _ _ (by exact c1) (J1.below (by exact below_drewN (Below.refl _ _) _)) hs).mono ?_
                  rintro e wc ⟨rfl, q3, rfl⟩
                  generalize has L a7 = p
                  cases p
                  all_goals
                    go_wp2
                    go_ret
                    exact ⟨rfl, below_drewN BY _⟩


end Go.Proofs.Qxb6612677a
