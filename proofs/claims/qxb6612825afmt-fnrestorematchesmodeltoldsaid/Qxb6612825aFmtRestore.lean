/-
  Restore, WALKED.
-/
import Derived.Test.Qxb6612825aFmtRestoreLaw
namespace Go.Proofs.Qxb6612825aFmt
open Go.RowKit Go.Proofs.Qxb6612825aFmt.Big
set_option linter.unusedVariables false

theorem needOf_in {zs : List Int} {s n : Nat} (h : s < nRows zs) : needOf zs s n = n := by unfold needOf; rw [if_pos h]
theorem needOf_out {zs : List Int} {s n : Nat} (h : ¬ s < nRows zs) : needOf zs s n = n + (s + 1 - nRows zs) * 4 := by unfold needOf; rw [if_neg h]
theorem emptyOf_in {zs : List Int} {s : Nat} (h : s < nRows zs) : emptyOf zs s = (u16 zs 30 : Int) - 1 := by unfold emptyOf; rw [if_pos h]
theorem emptyOf_out {zs : List Int} {s : Nat} (h : ¬ s < nRows zs) : emptyOf zs s = (u16 zs 30 : Int) + ((s : Int) - (nRows zs : Int)) := by unfold emptyOf; rw [if_neg h]
theorem widen_in {zs : List Int} {s : Nat} (h : s < nRows zs) : widen zs s = zs := by unfold widen; rw [if_neg (by omega)]
theorem widen_out {zs : List Int} {s : Nat} (h : ¬ s < nRows zs) : widen zs s = put16 (blit zs (ent zs (nRows zs)) (List.replicate ((s + 1 - nRows zs) * 4) 0)) 16 ((s : Int) + 1) := by unfold widen; rw [if_pos (by omega)]

theorem ent_ge (zs : List Int) (i : Nat) : 52 ≤ ent zs i := by unfold ent dirS; omega
theorem ent_lt {zs : List Int} {s : Nat} (h : s < nRows zs) : ent zs s + 4 ≤ ent zs (nRows zs) := by unfold ent; omega
theorem ent_out {zs : List Int} {s : Nat} (h : ¬ s < nRows zs) : ent zs s + 4 = ent zs (nRows zs) + (s + 1 - nRows zs) * 4 := by unfold ent; omega

theorem widen_sp {zs zs1 : List Int} {s n : Nat} (R : Room zs zs1 (needOf zs s n)) : IsBlk (widen zs1 s) ∧ rowSp (widen zs1 s) = rowSp zs1 ∧ (∀ i, ent (widen zs1 s) i = ent zs i) ∧ ent zs s + 4 + n ≤ rowSp zs1 := by
  have hr := R.rows
  have h1 := R.room
  have h2 := R.top
  have h3 := R.ent (nRows zs)
  have h4 := ent_ge zs (nRows zs)
  by_cases h : s < nRows zs
  · rw [widen_in (by omega)]
    rw [needOf_in h] at h1
    have := ent_lt h
    exact ⟨R.blk, rfl, R.ent, by omega⟩
  · rw [widen_out (by omega), hr, h3]
    rw [needOf_out h] at h1
    have h5 := ent_out h
    have hl : ent zs (nRows zs) + (List.replicate ((s + 1 - nRows zs) * 4) (0 : Int)).length ≤ zs1.length := by rw [List.length_replicate, R.blk.len]; omega
    refine ⟨(R.blk.blit (by rw [List.length_replicate]; omega) (wf_zeros _)).put16 _ _, ?_, fun i => ?_, by omega⟩
    · unfold rowSp
      rw [u16_put16_out _ _ _ _ (by omega), u16_blit_out hl (by omega)]
    · rw [ent_put16 _ _ (by omega), ent_blit _ hl (by omega)]
      exact R.ent i

theorem laid_eq {zs2 rs : List Int} {s q L o1 en : Nat} {em : Int} (h1 : u16 zs2 18 = q) (h2 : rs.length = L) (h3 : q - L = o1) (h4 : ent zs2 s = en) :
    laid zs2 s rs em = put16 (put16 (put16 (put16 (blit zs2 o1 rs) en (o1 : Int)) (en + 2) (L : Int)) 18 (o1 : Int)) 30 em := by
  subst h1 h2 h3 h4
  rfl

set_option maxRecDepth 100000 in
set_option maxHeartbeats 4000000 in
theorem restore10 (g s : Nat) (ra : Option Addr) (cap : Nat) (rs : List Int) (zs : List Int) (w : World) (V : Valid zs) (hs : s ≤ 65536) (h0 : s < nRows zs → offOf zs s = 0) (hL : rs.length ≤ 524288) (H : Blk w g zs) (R : RowIs w g ra rs) :
    Calls Tryf.prog 10 #[.pointer (some ⟨g, 0, none⟩), .int .i64 (s : Int), .slice ra rs.length cap] w fun e w' => Restored zs s rs g w e w' := by
  have l16 : nRows zs < 65536 := H.1.u16_lt 16
  have l18 : (rowSp zs : Int) ≤ 8188 := by have := V.top; omega
  have hdir : ent zs (nRows zs) ≤ rowSp zs := V.dir
  have l28 : u16 zs 28 < 65536 := H.1.u16_lt 28
  have l30 : u16 zs 30 < 65536 := H.1.u16_lt 30
  have HV : Hid (Valid zs) := V
  have HH : Hid (Blk w g zs) := H
  have HR : Hid (RowIs w g ra rs) := R
  have hF : ∀ w', Below w.heap.size w w' → Calls Tryf.prog 13 #[.pointer (some ⟨g, 0, none⟩)] w' fun e w'' => e = .returned (.int .i64 ((rowSp zs : Int) - (ent zs (nRows zs) : Int) + (u16 zs 28 : Nat))) ∧ Below w'.heap.size w' w'' := fun w' b => free13 g zs w' (HH.out.below b)
  have hG : ∀ w', Below w.heap.size w w' → Calls Tryf.prog 21 #[.pointer (some ⟨g, 0, none⟩)] w' fun e w'' => e = .returned (.int .i64 ((rowSp zs : Int) - (ent zs (nRows zs) : Int))) ∧ Below w'.heap.size w' w'' := fun w' b => gap21 g zs w' (HH.out.below b)
  have hC : ∀ w', Below w.heap.size w w' → Calls Tryf.prog 22 #[.pointer (some ⟨g, 0, none⟩)] w' fun e w'' => e = .returned (.tuple #[]) ∧ ∃ zs', Compacted zs zs' ∧ Blk w'' g zs' ∧ w'.grownBy w'' (some g) := fun w' b => compact22 g zs w' HV.out (HH.out.below b)
  have hR := rows17 g zs w H
  have hU : ∀ w', Below w.heap.size w w' → Calls Tryf.prog 18 #[.pointer (some ⟨g, 0, none⟩), .int .i64 30] w' fun e w'' => e = .returned (.int .i64 (u16 zs 30 : Nat)) ∧ Below w'.heap.size w' w'' := fun w' b => u18 g 30 30 zs w' rfl (by omega) (HH.out.below b)
  have HL : Hid (∃ L, L = rs.length) := ⟨_, rfl⟩
  clear V H R
  by_cases hsr : s < nRows zs
  · have HN : Hid (needOf zs s rs.length = rs.length) := needOf_in hsr
    have HEm : Hid (emptyOf zs s = (u16 zs 30 : Int) - 1) := emptyOf_in hsr
    have HFr : Hid (freeOf zs = (rowSp zs : Int) - (ent zs (nRows zs) : Int) + (u16 zs 28 : Nat)) := rfl
    have HSR : Hid (s < nRows zs) := hsr
    have hE : ∀ w', Below w.heap.size w w' → Calls Tryf.prog 19 #[.pointer (some ⟨g, 0, none⟩), .int .i64 (s : Int)] w' fun e w'' => e = .returned (.tuple #[.int .i64 0, .int .i64 0, .bool (delB (rawOf zs s))]) ∧ Below w'.heap.size w' w'' := by
      intro w' b
      have he := ent_lt hsr
      have hz := HV.out.upto.zero s hsr (h0 hsr)
      have := rowEntry19 g (s : Int) s zs w' rfl (by omega) (by omega) (HH.out.below b)
      have hl0 : lenOf zs s = 0 := by unfold lenOf; rw [hz]
      rw [h0 hsr, hl0] at this
      exact this
    have HLN : Hid (rs.length = rs.length) := rfl
    have hn4 : ent zs (nRows zs) = dirS zs + 4 * nRows zs := rfl
    generalize hLL : rs.length = L at *
    generalize hsp : rowSp zs = sp at *
    generalize hde : ent zs (nRows zs) = de at *
    generalize h28 : u16 zs 28 = ho at *
    generalize h30 : u16 zs 30 = em at *
    have HSP : Hid (rowSp zs = sp) := hsp
    have HDE : Hid (ent zs (nRows zs) = de) := hde
    generalize hnr : nRows zs = n at *
    have HNR : Hid (nRows zs = n) := hnr
    have HLL : Hid (rs.length = L) := hLL
    clear hLL hsp hde h28 h30 hnr HLN
    have hn4' : 4 * n ≤ de := by omega
    clear hn4
    go_enter Tryf.func10, Tryf.ntmps10
    go_wp2_with fail
    refine hR.mono ?_
    rintro e w1 ⟨rfl, B1⟩
    go_wp2_with fail
    refine (hU w1 B1).mono ?_
    rintro e w2 ⟨rfl, B2'⟩
    have B2 := B1.trans (B2'.mono B1.size)
    clear hR hU B1 B2'
    go_wp2_with fail
    refine (hE w2 B2).mono ?_
    rintro e w3 ⟨rfl, B3'⟩
    have B3 := B2.trans (B3'.mono B2.size)
    clear hE B2 B3'
    go_wp2_with fail
    by_cases hfit : (L : Int) ≤ (sp : Int) - (de : Int) + (ho : Int)
    · refine (hF w3 B3).mono ?_
      rintro e w4 ⟨rfl, B4'⟩
      have B4 := B3.trans (B4'.mono B3.size)
      clear hF B3 B4'
      by_cases hgap : (L : Int) ≤ (sp : Int) - (de : Int)
      · go_wp2_with fail
        refine (hG w4 B4).mono ?_
        rintro e w5 ⟨rfl, B5'⟩
        have B5 := B4.trans (B5'.mono B4.size)
        have HRm : Hid (Room zs zs L) := room_self HH.out.1 HV.out (by rw [HSP.out, HNR.out, HDE.out]; omega)
        have HB1 : Hid (Blk w5 g zs) := HH.out.below B5
        have G1 : Hid (w.grownBy w5 (some g)) := below_grown B5
        have HC1 : Hid (zs = zs ∨ Compacted zs zs) := .inl rfl
        clear hG hC B4 B5 B5'
        have HW := widen_sp (zs := zs) (zs1 := zs) (s := s) (n := rs.length) (by rw [HLL.out, HN.out]; exact HRm.out)
        rw [widen_in (by rw [HRm.out.rows, HNR.out]; exact HSR.out)] at HW
        obtain ⟨hwb, hwsp, hwe, hwf⟩ := HW
        have l8 : (rowSp zs : Int) ≤ 8188 := by have := HRm.out.top; omega
        have HWE : Hid (∀ i, ent zs i = ent zs i) := hwe
        have HWD : Hid (widen zs s = zs) := widen_in (by rw [HRm.out.rows, HNR.out]; exact HSR.out)
        rw [HLL.out] at hwf
        have HS2 : Hid (u16 zs 18 = rowSp zs) := rfl
        have HB2 := HB1
        have G2 := G1
        clear hwe hwb hwsp HB1 G1
        go_wp2_with fail
        refine (u18 g 18 18 zs w5 rfl (by omega) HB2.out).mono ?_
        rintro e w7 ⟨rfl, B7⟩
        have HB7 : Hid (Blk w7 g zs) := HB2.out.below B7
        have G7 : Hid (w.grownBy w7 (some g)) := grown_trans G2.out (below_grown B7)
        have R7 : Hid (RowIs w7 g ra rs) := HR.out.grown G7.out
        change Hid _ at HB7
        rw [HS2.out]
        clear HB2 G2 B7
        have HS3 : Hid (∃ q, q = rowSp zs) := ⟨_, rfl⟩
        generalize hq : rowSp zs = q at *
        have HQ : Hid (rowSp zs = q) := hq
        obtain ⟨o1, ho1⟩ : ∃ o1 : Nat, q - L = o1 := ⟨_, rfl⟩
        have ho2 : (q : Int) - (L : Int) = (o1 : Int) := by omega
        have HO1 : Hid (q - L = o1) := ho1
        have ho3 : o1 + L ≤ 8188 := by omega
        have ho4 : (o1 : Int) ≤ 8188 := by omega
        have ho5 : ¬ 8192 = o1 := by omega
        have ho6 : 52 ≤ o1 := by have := ent_ge zs s; omega
        have hents : ent zs s + 4 ≤ o1 := by omega
        clear hq ho1 HS3
        have s1 : ∀ W, (Instr.sliceAt 30 (.pointer (some ⟨g, 0, none⟩)) (some (.int .i64 (o1 : Int))) none none).run Tryf.prog W = .ok (.slice (some ⟨g, o1, none⟩) (8192 - o1) (8192 - o1)) W := fun W => slice30l g o1 W (by omega)
        have t1 : (0 : Int) ≤ (o1 : Int) := by omega
        have t2 : (o1 : Int) ≤ 8192 := by omega
        have t3 : (o1 : Int) < 8192 := by omega
        go_wp2_with (refine at_op (.call { callee := .builtin .copy, args := #[.tmp 94, .tmp 95], argTypes := #[23, 23] }) rfl ?_; refine wpList_copy_row rfl (.tmp 94) (.tmp 95) rfl g o1 (8192 - o1) (8192 - o1) rfl ra L cap rfl zs (HB7.out.heap rfl) rs HLL.out (R7.out.grown (by exact ⟨rfl, rfl, rfl, Nat.le_refl _, fun _ _ _ => rfl⟩)) (by rw [HLL.out]; omega) (by rw [HLL.out]; omega) ?_; intro w8 hB8 hg8)
        have HENT : Hid (ent (blit zs o1 rs) s = ent zs s) := by
          unfold Hid
          rw [ent_blit s (by rw [HLL.out, HB7.out.1.len]; omega) (by omega)]
        have G8 : Hid (w.grownBy w8 (some g)) := grown_trans G7.out (grown_trans ⟨rfl, rfl, rfl, Nat.le_refl _, fun _ _ _ => rfl⟩ hg8.out)
        clear s1 HB7 hg8 R7 G7
        refine (setEntry25 g (s : Int) s (o1 : Int) (L : Int) _ _ rfl (by omega) (by rw [HENT.out]; omega) hB8.out).mono ?_
        rintro e w9 ⟨rfl, H9, r9⟩
        rw [HENT.out] at H9
        have HH9 : Hid (Blk w9 g (put16 (put16 (blit zs o1 rs) (ent zs s) (o1 : Int)) (ent zs s + 2) (L : Int))) := H9
        have G9 : Hid (w.grownBy w9 (some g)) := grown_trans G8.out r9
        clear H9 r9 hB8 G8
        go_wp2_with fail
        refine (set24 g 18 18 _ _ _ rfl (by omega) HH9.out).mono ?_
        rintro e w10 ⟨rfl, H10, r10⟩
        have HH10 : Hid (Blk w10 g _) := H10
        have G10 : Hid (w.grownBy w10 (some g)) := grown_trans G9.out r10
        clear H10 r10 HH9 G9
        go_wp2_with fail
        refine (set24 g 30 30 _ _ _ rfl (by omega) HH10.out).mono ?_
        rintro e w11 ⟨rfl, H11, r11⟩
        have HH11 : Hid (Blk w11 g _) := H11
        have G11 : Hid (w.grownBy w11 (some g)) := grown_trans G10.out r11
        clear H11 r11 HH10 G10
        go_wp2
        go_ret
        refine .inr ⟨rfl, by rw [HLL.out, HN.out, HFr.out]; omega, _, ⟨zs, .inl rfl, by rw [HLL.out, HN.out]; exact HRm.out, ?_⟩, HH11.out, G11.out⟩
        rw [HWD.out, laid_eq HS2.out HLL.out HO1.out (rfl), HEm.out]
      · go_wp2_with fail
        refine (hG w4 B4).mono ?_
        rintro e w5 ⟨rfl, B5'⟩
        have B5 := B4.trans (B5'.mono B4.size)
        clear hG B4 B5'
        go_wp2_with fail
        refine (hC w5 B5).mono ?_
        rintro e w6 ⟨rfl, zs1, hc1, hb1, hg1⟩
        have HRm : Hid (Room zs zs1 L) := room_compacted HH.out.1 HV.out hc1 (by rw [HFr.out]; omega)
        have HB1 : Hid (Blk w6 g zs1) := hb1
        have G1 : Hid (w.grownBy w6 (some g)) := below_then_grown B5 hg1
        have HC1 : Hid (zs1 = zs ∨ Compacted zs zs1) := .inr hc1
        clear hC B5 hb1 hg1 hc1
        have HW := widen_sp (zs := zs) (zs1 := zs1) (s := s) (n := rs.length) (by rw [HLL.out, HN.out]; exact HRm.out)
        rw [widen_in (by rw [HRm.out.rows, HNR.out]; exact HSR.out)] at HW
        obtain ⟨hwb, hwsp, hwe, hwf⟩ := HW
        have l8 : (rowSp zs1 : Int) ≤ 8188 := by have := HRm.out.top; omega
        have HWE : Hid (∀ i, ent zs1 i = ent zs i) := hwe
        have HWD : Hid (widen zs1 s = zs1) := widen_in (by rw [HRm.out.rows, HNR.out]; exact HSR.out)
        rw [HLL.out] at hwf
        have HS2 : Hid (u16 zs1 18 = rowSp zs1) := rfl
        have HB2 := HB1
        have G2 := G1
        clear hwe hwb hwsp HB1 G1
        go_wp2_with fail
        refine (u18 g 18 18 zs1 w6 rfl (by omega) HB2.out).mono ?_
        rintro e w7 ⟨rfl, B7⟩
        have HB7 : Hid (Blk w7 g zs1) := HB2.out.below B7
        have G7 : Hid (w.grownBy w7 (some g)) := grown_trans G2.out (below_grown B7)
        have R7 : Hid (RowIs w7 g ra rs) := HR.out.grown G7.out
        change Hid _ at HB7
        rw [HS2.out]
        clear HB2 G2 B7
        have HS3 : Hid (∃ q, q = rowSp zs1) := ⟨_, rfl⟩
        generalize hq : rowSp zs1 = q at *
        have HQ : Hid (rowSp zs1 = q) := hq
        obtain ⟨o1, ho1⟩ : ∃ o1 : Nat, q - L = o1 := ⟨_, rfl⟩
        have ho2 : (q : Int) - (L : Int) = (o1 : Int) := by omega
        have HO1 : Hid (q - L = o1) := ho1
        have ho3 : o1 + L ≤ 8188 := by omega
        have ho4 : (o1 : Int) ≤ 8188 := by omega
        have ho5 : ¬ 8192 = o1 := by omega
        have ho6 : 52 ≤ o1 := by have := ent_ge zs s; omega
        have hents : ent zs s + 4 ≤ o1 := by omega
        clear hq ho1 HS3
        have s1 : ∀ W, (Instr.sliceAt 30 (.pointer (some ⟨g, 0, none⟩)) (some (.int .i64 (o1 : Int))) none none).run Tryf.prog W = .ok (.slice (some ⟨g, o1, none⟩) (8192 - o1) (8192 - o1)) W := fun W => slice30l g o1 W (by omega)
        have t1 : (0 : Int) ≤ (o1 : Int) := by omega
        have t2 : (o1 : Int) ≤ 8192 := by omega
        have t3 : (o1 : Int) < 8192 := by omega
        go_wp2_with (refine at_op (.call { callee := .builtin .copy, args := #[.tmp 94, .tmp 95], argTypes := #[23, 23] }) rfl ?_; refine wpList_copy_row rfl (.tmp 94) (.tmp 95) rfl g o1 (8192 - o1) (8192 - o1) rfl ra L cap rfl zs1 (HB7.out.heap rfl) rs HLL.out (R7.out.grown (by exact ⟨rfl, rfl, rfl, Nat.le_refl _, fun _ _ _ => rfl⟩)) (by rw [HLL.out]; omega) (by rw [HLL.out]; omega) ?_; intro w8 hB8 hg8)
        have HENT : Hid (ent (blit zs1 o1 rs) s = ent zs s) := by
          unfold Hid
          rw [ent_blit s (by rw [HLL.out, HB7.out.1.len]; omega) (by omega)]
          exact HWE.out s
        have G8 : Hid (w.grownBy w8 (some g)) := grown_trans G7.out (grown_trans ⟨rfl, rfl, rfl, Nat.le_refl _, fun _ _ _ => rfl⟩ hg8.out)
        clear s1 HB7 hg8 R7 G7
        refine (setEntry25 g (s : Int) s (o1 : Int) (L : Int) _ _ rfl (by omega) (by rw [HENT.out]; omega) hB8.out).mono ?_
        rintro e w9 ⟨rfl, H9, r9⟩
        rw [HENT.out] at H9
        have HH9 : Hid (Blk w9 g (put16 (put16 (blit zs1 o1 rs) (ent zs s) (o1 : Int)) (ent zs s + 2) (L : Int))) := H9
        have G9 : Hid (w.grownBy w9 (some g)) := grown_trans G8.out r9
        clear H9 r9 hB8 G8
        go_wp2_with fail
        refine (set24 g 18 18 _ _ _ rfl (by omega) HH9.out).mono ?_
        rintro e w10 ⟨rfl, H10, r10⟩
        have HH10 : Hid (Blk w10 g _) := H10
        have G10 : Hid (w.grownBy w10 (some g)) := grown_trans G9.out r10
        clear H10 r10 HH9 G9
        go_wp2_with fail
        refine (set24 g 30 30 _ _ _ rfl (by omega) HH10.out).mono ?_
        rintro e w11 ⟨rfl, H11, r11⟩
        have HH11 : Hid (Blk w11 g _) := H11
        have G11 : Hid (w.grownBy w11 (some g)) := grown_trans G10.out r11
        clear H11 r11 HH10 G10
        go_wp2
        go_ret
        refine .inr ⟨rfl, by rw [HLL.out, HN.out, HFr.out]; omega, _, ⟨zs1, HC1.out, by rw [HLL.out, HN.out]; exact HRm.out, ?_⟩, HH11.out, G11.out⟩
        rw [HWD.out, laid_eq HS2.out HLL.out HO1.out (HWE.out s), HEm.out]
    · refine (hF w3 B3).mono ?_
      rintro e w4 ⟨rfl, B4'⟩
      have B4 := B3.trans (B4'.mono B3.size)
      go_wp2
      go_ret
      exact .inl ⟨rfl, by rw [HLL.out, HN.out, HFr.out]; omega, B4⟩
  · have HN : Hid (needOf zs s rs.length = rs.length + (s + 1 - nRows zs) * 4) := needOf_out hsr
    have HEm : Hid (emptyOf zs s = (u16 zs 30 : Int) + ((s : Int) - (nRows zs : Int))) := emptyOf_out hsr
    have HFr : Hid (freeOf zs = (rowSp zs : Int) - (ent zs (nRows zs) : Int) + (u16 zs 28 : Nat)) := rfl
    have HSR : Hid (¬ s < nRows zs) := hsr
    have HLN : Hid (rs.length = rs.length) := rfl
    have hn4 : ent zs (nRows zs) = dirS zs + 4 * nRows zs := rfl
    generalize hLL : rs.length = L at *
    generalize hsp : rowSp zs = sp at *
    generalize hde : ent zs (nRows zs) = de at *
    generalize h28 : u16 zs 28 = ho at *
    generalize h30 : u16 zs 30 = em at *
    have HSP : Hid (rowSp zs = sp) := hsp
    have HDE : Hid (ent zs (nRows zs) = de) := hde
    generalize hnr : nRows zs = n at *
    have HNR : Hid (nRows zs = n) := hnr
    have HLL : Hid (rs.length = L) := hLL
    clear hLL hsp hde h28 h30 hnr HLN
    have hn4' : 4 * n ≤ de := by omega
    clear hn4
    go_enter Tryf.func10, Tryf.ntmps10
    go_wp2_with fail
    refine hR.mono ?_
    rintro e w1 ⟨rfl, B1⟩
    go_wp2_with fail
    refine (hU w1 B1).mono ?_
    rintro e w2 ⟨rfl, B2'⟩
    have B2 := B1.trans (B2'.mono B1.size)
    clear hR hU B1 B2'
    go_wp2_with fail
    by_cases hfit : (L : Int) + ((s : Int) + 1 - (n : Int)) * 4 ≤ (sp : Int) - (de : Int) + (ho : Int)
    · refine (hF w2 B2).mono ?_
      rintro e w4 ⟨rfl, B4'⟩
      have B4 := B2.trans (B4'.mono B2.size)
      clear hF B2 B4'
      by_cases hgap : (L : Int) + ((s : Int) + 1 - (n : Int)) * 4 ≤ (sp : Int) - (de : Int)
      · go_wp2_with fail
        refine (hG w4 B4).mono ?_
        rintro e w5 ⟨rfl, B5'⟩
        have B5 := B4.trans (B5'.mono B4.size)
        have HRm : Hid (Room zs zs (L + (s + 1 - n) * 4)) := room_self HH.out.1 HV.out (by rw [HSP.out, HNR.out, HDE.out]; omega)
        have HB1 : Hid (Blk w5 g zs) := HH.out.below B5
        have G1 : Hid (w.grownBy w5 (some g)) := below_grown B5
        have HC1 : Hid (zs = zs ∨ Compacted zs zs) := .inl rfl
        clear hG hC B4 B5 B5'
        have HW := widen_sp (zs := zs) (zs1 := zs) (s := s) (n := rs.length) (by rw [HLL.out, HN.out]; exact HRm.out)
        obtain ⟨hwb, hwsp, hwe, hwf⟩ := HW
        have l8 : (rowSp zs : Int) ≤ 8188 := by have := HRm.out.top; omega
        have HWE : Hid (∀ i, ent (widen zs s) i = ent zs i) := hwe
        have HS2 : Hid (u16 (widen zs s) 18 = rowSp zs) := hwsp
        rw [HLL.out] at hwf
        have hroom : de + (L + (s + 1 - n) * 4) ≤ rowSp zs := by have := HRm.out.room; rw [HNR.out, HDE.out] at this; exact this
        obtain ⟨m, hm⟩ : ∃ m : Nat, (s + 1 - n) * 4 = m := ⟨_, rfl⟩
        have hm2 : ((s : Int) + 1 - (n : Int)) * 4 = (m : Int) := by omega
        have HE1 : Hid (ent zs (nRows zs) = de) := by unfold Hid; rw [HRm.out.rows, HRm.out.ent, HNR.out, HDE.out]
        have HWD : Hid (put16 (blit zs de (List.replicate m 0)) 16 ((s : Int) + 1) = widen zs s) := by
          unfold Hid
          rw [widen_out (by rw [HRm.out.rows, HNR.out]; exact HSR.out), HE1.out, HRm.out.rows, HNR.out, hm]
        have dl1 : (de : Int) + (m : Int) ≤ 8188 := by omega
        have dl2 : 0 < m := by omega
        clear hwe hwb hwsp hm
        go_wp2_with fail
        refine (dirEnd23 g zs w5 HB1.out).mono ?_
        rintro e wa ⟨rfl, Ba⟩
        rw [HE1.out]
        have HBa : Hid (Blk wa g zs) := HB1.out.below Ba
        have Ga : Hid (w.grownBy wa (some g)) := grown_trans G1.out (below_grown Ba)
        clear HB1 G1 Ba
        have s2 : ∀ W, (Instr.sliceAt 30 (.pointer (some ⟨g, 0, none⟩)) (some (.int .i64 (de : Int))) (some (.int .i64 ((de : Int) + (m : Int)))) none).run Tryf.prog W = .ok (.slice (some ⟨g, de, none⟩) m (8192 - de)) W := fun W => slice30 g de m W (by omega)
        go_wp2_with (refine at_op (.call { callee := .builtin .clear, args := #[.tmp 81], argTypes := #[23] }) rfl ?_; refine wpList_clear_blk rfl (.tmp 81) rfl g de m (8192 - de) rfl (by omega) zs (HBa.out.heap rfl) (by omega) ?_; intro wb hBb hgb)
        have Gb : Hid (w.grownBy wb (some g)) := grown_trans Ga.out (grown_trans ⟨rfl, rfl, rfl, Nat.le_refl _, fun _ _ _ => rfl⟩ hgb.out)
        clear s2 HBa Ga hgb
        refine (set24 g 16 16 _ _ _ rfl (by omega) hBb.out).mono ?_
        rintro e wc ⟨rfl, Hc, rc⟩
        rw [HWD.out] at Hc
        have HB2 : Hid (Blk wc g (widen zs s)) := Hc
        have G2 : Hid (w.grownBy wc (some g)) := grown_trans Gb.out rc
        clear Hc rc Gb hBb HWD
        go_wp2_with fail
        refine (u18 g 18 18 (widen zs s) wc rfl (by omega) HB2.out).mono ?_
        rintro e w7 ⟨rfl, B7⟩
        have HB7 : Hid (Blk w7 g (widen zs s)) := HB2.out.below B7
        have G7 : Hid (w.grownBy w7 (some g)) := grown_trans G2.out (below_grown B7)
        have R7 : Hid (RowIs w7 g ra rs) := HR.out.grown G7.out
        change Hid _ at HB7
        rw [HS2.out]
        clear HB2 G2 B7
        have HS3 : Hid (∃ q, q = rowSp zs) := ⟨_, rfl⟩
        generalize hq : rowSp zs = q at *
        have HQ : Hid (rowSp zs = q) := hq
        obtain ⟨o1, ho1⟩ : ∃ o1 : Nat, q - L = o1 := ⟨_, rfl⟩
        have ho2 : (q : Int) - (L : Int) = (o1 : Int) := by omega
        have HO1 : Hid (q - L = o1) := ho1
        have ho3 : o1 + L ≤ 8188 := by omega
        have ho4 : (o1 : Int) ≤ 8188 := by omega
        have ho5 : ¬ 8192 = o1 := by omega
        have ho6 : 52 ≤ o1 := by have := ent_ge zs s; omega
        have hents : ent zs s + 4 ≤ o1 := by omega
        clear hq ho1 HS3
        have s1 : ∀ W, (Instr.sliceAt 30 (.pointer (some ⟨g, 0, none⟩)) (some (.int .i64 (o1 : Int))) none none).run Tryf.prog W = .ok (.slice (some ⟨g, o1, none⟩) (8192 - o1) (8192 - o1)) W := fun W => slice30l g o1 W (by omega)
        have t1 : (0 : Int) ≤ (o1 : Int) := by omega
        have t2 : (o1 : Int) ≤ 8192 := by omega
        have t3 : (o1 : Int) < 8192 := by omega
        go_wp2_with (refine at_op (.call { callee := .builtin .copy, args := #[.tmp 94, .tmp 95], argTypes := #[23, 23] }) rfl ?_; refine wpList_copy_row rfl (.tmp 94) (.tmp 95) rfl g o1 (8192 - o1) (8192 - o1) rfl ra L cap rfl (widen zs s) (HB7.out.heap rfl) rs HLL.out (R7.out.grown (by exact ⟨rfl, rfl, rfl, Nat.le_refl _, fun _ _ _ => rfl⟩)) (by rw [HLL.out]; omega) (by rw [HLL.out]; omega) ?_; intro w8 hB8 hg8)
        have HENT : Hid (ent (blit (widen zs s) o1 rs) s = ent zs s) := by
          unfold Hid
          rw [ent_blit s (by rw [HLL.out, HB7.out.1.len]; omega) (by omega)]
          exact HWE.out s
        have G8 : Hid (w.grownBy w8 (some g)) := grown_trans G7.out (grown_trans ⟨rfl, rfl, rfl, Nat.le_refl _, fun _ _ _ => rfl⟩ hg8.out)
        clear s1 HB7 hg8 R7 G7
        refine (setEntry25 g (s : Int) s (o1 : Int) (L : Int) _ _ rfl (by omega) (by rw [HENT.out]; omega) hB8.out).mono ?_
        rintro e w9 ⟨rfl, H9, r9⟩
        rw [HENT.out] at H9
        have HH9 : Hid (Blk w9 g (put16 (put16 (blit (widen zs s) o1 rs) (ent zs s) (o1 : Int)) (ent zs s + 2) (L : Int))) := H9
        have G9 : Hid (w.grownBy w9 (some g)) := grown_trans G8.out r9
        clear H9 r9 hB8 G8
        go_wp2_with fail
        refine (set24 g 18 18 _ _ _ rfl (by omega) HH9.out).mono ?_
        rintro e w10 ⟨rfl, H10, r10⟩
        have HH10 : Hid (Blk w10 g _) := H10
        have G10 : Hid (w.grownBy w10 (some g)) := grown_trans G9.out r10
        clear H10 r10 HH9 G9
        go_wp2_with fail
        refine (set24 g 30 30 _ _ _ rfl (by omega) HH10.out).mono ?_
        rintro e w11 ⟨rfl, H11, r11⟩
        have HH11 : Hid (Blk w11 g _) := H11
        have G11 : Hid (w.grownBy w11 (some g)) := grown_trans G10.out r11
        clear H11 r11 HH10 G10
        go_wp2
        go_ret
        refine .inr ⟨rfl, by rw [HLL.out, HN.out, HFr.out]; omega, _, ⟨zs, .inl rfl, by rw [HLL.out, HN.out]; exact HRm.out, ?_⟩, HH11.out, G11.out⟩
        rw [laid_eq HS2.out HLL.out HO1.out (HWE.out s), HEm.out]
      · go_wp2_with fail
        refine (hG w4 B4).mono ?_
        rintro e w5 ⟨rfl, B5'⟩
        have B5 := B4.trans (B5'.mono B4.size)
        clear hG B4 B5'
        go_wp2_with fail
        refine (hC w5 B5).mono ?_
        rintro e w6 ⟨rfl, zs1, hc1, hb1, hg1⟩
        have HRm : Hid (Room zs zs1 (L + (s + 1 - n) * 4)) := room_compacted HH.out.1 HV.out hc1 (by rw [HFr.out]; omega)
        have HB1 : Hid (Blk w6 g zs1) := hb1
        have G1 : Hid (w.grownBy w6 (some g)) := below_then_grown B5 hg1
        have HC1 : Hid (zs1 = zs ∨ Compacted zs zs1) := .inr hc1
        clear hC B5 hb1 hg1 hc1
        have HW := widen_sp (zs := zs) (zs1 := zs1) (s := s) (n := rs.length) (by rw [HLL.out, HN.out]; exact HRm.out)
        obtain ⟨hwb, hwsp, hwe, hwf⟩ := HW
        have l8 : (rowSp zs1 : Int) ≤ 8188 := by have := HRm.out.top; omega
        have HWE : Hid (∀ i, ent (widen zs1 s) i = ent zs i) := hwe
        have HS2 : Hid (u16 (widen zs1 s) 18 = rowSp zs1) := hwsp
        rw [HLL.out] at hwf
        have hroom : de + (L + (s + 1 - n) * 4) ≤ rowSp zs1 := by have := HRm.out.room; rw [HNR.out, HDE.out] at this; exact this
        obtain ⟨m, hm⟩ : ∃ m : Nat, (s + 1 - n) * 4 = m := ⟨_, rfl⟩
        have hm2 : ((s : Int) + 1 - (n : Int)) * 4 = (m : Int) := by omega
        have HE1 : Hid (ent zs1 (nRows zs1) = de) := by unfold Hid; rw [HRm.out.rows, HRm.out.ent, HNR.out, HDE.out]
        have HWD : Hid (put16 (blit zs1 de (List.replicate m 0)) 16 ((s : Int) + 1) = widen zs1 s) := by
          unfold Hid
          rw [widen_out (by rw [HRm.out.rows, HNR.out]; exact HSR.out), HE1.out, HRm.out.rows, HNR.out, hm]
        have dl1 : (de : Int) + (m : Int) ≤ 8188 := by omega
        have dl2 : 0 < m := by omega
        clear hwe hwb hwsp hm
        go_wp2_with fail
        refine (dirEnd23 g zs1 w6 HB1.out).mono ?_
        rintro e wa ⟨rfl, Ba⟩
        rw [HE1.out]
        have HBa : Hid (Blk wa g zs1) := HB1.out.below Ba
        have Ga : Hid (w.grownBy wa (some g)) := grown_trans G1.out (below_grown Ba)
        clear HB1 G1 Ba
        have s2 : ∀ W, (Instr.sliceAt 30 (.pointer (some ⟨g, 0, none⟩)) (some (.int .i64 (de : Int))) (some (.int .i64 ((de : Int) + (m : Int)))) none).run Tryf.prog W = .ok (.slice (some ⟨g, de, none⟩) m (8192 - de)) W := fun W => slice30 g de m W (by omega)
        go_wp2_with (refine at_op (.call { callee := .builtin .clear, args := #[.tmp 81], argTypes := #[23] }) rfl ?_; refine wpList_clear_blk rfl (.tmp 81) rfl g de m (8192 - de) rfl (by omega) zs1 (HBa.out.heap rfl) (by omega) ?_; intro wb hBb hgb)
        have Gb : Hid (w.grownBy wb (some g)) := grown_trans Ga.out (grown_trans ⟨rfl, rfl, rfl, Nat.le_refl _, fun _ _ _ => rfl⟩ hgb.out)
        clear s2 HBa Ga hgb
        refine (set24 g 16 16 _ _ _ rfl (by omega) hBb.out).mono ?_
        rintro e wc ⟨rfl, Hc, rc⟩
        rw [HWD.out] at Hc
        have HB2 : Hid (Blk wc g (widen zs1 s)) := Hc
        have G2 : Hid (w.grownBy wc (some g)) := grown_trans Gb.out rc
        clear Hc rc Gb hBb HWD
        go_wp2_with fail
        refine (u18 g 18 18 (widen zs1 s) wc rfl (by omega) HB2.out).mono ?_
        rintro e w7 ⟨rfl, B7⟩
        have HB7 : Hid (Blk w7 g (widen zs1 s)) := HB2.out.below B7
        have G7 : Hid (w.grownBy w7 (some g)) := grown_trans G2.out (below_grown B7)
        have R7 : Hid (RowIs w7 g ra rs) := HR.out.grown G7.out
        change Hid _ at HB7
        rw [HS2.out]
        clear HB2 G2 B7
        have HS3 : Hid (∃ q, q = rowSp zs1) := ⟨_, rfl⟩
        generalize hq : rowSp zs1 = q at *
        have HQ : Hid (rowSp zs1 = q) := hq
        obtain ⟨o1, ho1⟩ : ∃ o1 : Nat, q - L = o1 := ⟨_, rfl⟩
        have ho2 : (q : Int) - (L : Int) = (o1 : Int) := by omega
        have HO1 : Hid (q - L = o1) := ho1
        have ho3 : o1 + L ≤ 8188 := by omega
        have ho4 : (o1 : Int) ≤ 8188 := by omega
        have ho5 : ¬ 8192 = o1 := by omega
        have ho6 : 52 ≤ o1 := by have := ent_ge zs s; omega
        have hents : ent zs s + 4 ≤ o1 := by omega
        clear hq ho1 HS3
        have s1 : ∀ W, (Instr.sliceAt 30 (.pointer (some ⟨g, 0, none⟩)) (some (.int .i64 (o1 : Int))) none none).run Tryf.prog W = .ok (.slice (some ⟨g, o1, none⟩) (8192 - o1) (8192 - o1)) W := fun W => slice30l g o1 W (by omega)
        have t1 : (0 : Int) ≤ (o1 : Int) := by omega
        have t2 : (o1 : Int) ≤ 8192 := by omega
        have t3 : (o1 : Int) < 8192 := by omega
        go_wp2_with (refine at_op (.call { callee := .builtin .copy, args := #[.tmp 94, .tmp 95], argTypes := #[23, 23] }) rfl ?_; refine wpList_copy_row rfl (.tmp 94) (.tmp 95) rfl g o1 (8192 - o1) (8192 - o1) rfl ra L cap rfl (widen zs1 s) (HB7.out.heap rfl) rs HLL.out (R7.out.grown (by exact ⟨rfl, rfl, rfl, Nat.le_refl _, fun _ _ _ => rfl⟩)) (by rw [HLL.out]; omega) (by rw [HLL.out]; omega) ?_; intro w8 hB8 hg8)
        have HENT : Hid (ent (blit (widen zs1 s) o1 rs) s = ent zs s) := by
          unfold Hid
          rw [ent_blit s (by rw [HLL.out, HB7.out.1.len]; omega) (by omega)]
          exact HWE.out s
        have G8 : Hid (w.grownBy w8 (some g)) := grown_trans G7.out (grown_trans ⟨rfl, rfl, rfl, Nat.le_refl _, fun _ _ _ => rfl⟩ hg8.out)
        clear s1 HB7 hg8 R7 G7
        refine (setEntry25 g (s : Int) s (o1 : Int) (L : Int) _ _ rfl (by omega) (by rw [HENT.out]; omega) hB8.out).mono ?_
        rintro e w9 ⟨rfl, H9, r9⟩
        rw [HENT.out] at H9
        have HH9 : Hid (Blk w9 g (put16 (put16 (blit (widen zs1 s) o1 rs) (ent zs s) (o1 : Int)) (ent zs s + 2) (L : Int))) := H9
        have G9 : Hid (w.grownBy w9 (some g)) := grown_trans G8.out r9
        clear H9 r9 hB8 G8
        go_wp2_with fail
        refine (set24 g 18 18 _ _ _ rfl (by omega) HH9.out).mono ?_
        rintro e w10 ⟨rfl, H10, r10⟩
        have HH10 : Hid (Blk w10 g _) := H10
        have G10 : Hid (w.grownBy w10 (some g)) := grown_trans G9.out r10
        clear H10 r10 HH9 G9
        go_wp2_with fail
        refine (set24 g 30 30 _ _ _ rfl (by omega) HH10.out).mono ?_
        rintro e w11 ⟨rfl, H11, r11⟩
        have HH11 : Hid (Blk w11 g _) := H11
        have G11 : Hid (w.grownBy w11 (some g)) := grown_trans G10.out r11
        clear H11 r11 HH10 G10
        go_wp2
        go_ret
        refine .inr ⟨rfl, by rw [HLL.out, HN.out, HFr.out]; omega, _, ⟨zs1, HC1.out, by rw [HLL.out, HN.out]; exact HRm.out, ?_⟩, HH11.out, G11.out⟩
        rw [laid_eq HS2.out HLL.out HO1.out (HWE.out s), HEm.out]
    · refine (hF w2 B2).mono ?_
      rintro e w4 ⟨rfl, B4'⟩
      have B4 := B2.trans (B4'.mono B2.size)
      go_wp2
      go_ret
      exact .inl ⟨rfl, by rw [HLL.out, HN.out, HFr.out]; omega, B4⟩
end Go.Proofs.Qxb6612825aFmt
