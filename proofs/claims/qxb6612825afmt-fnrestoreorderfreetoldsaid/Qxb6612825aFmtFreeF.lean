/-
  FnRestoreOrderFree, WALKED: combination F.
-/
import Derived.Test.Qxb6612825aFmtFreeLaw
namespace Go.Proofs.Qxb6612825aFmt
open Go.RowKit Go.Proofs.Qxb6612825aFmt.Big
set_option linter.unusedVariables false

set_option maxRecDepth 100000 in
set_option maxHeartbeats 4000000 in
theorem order4F (zs : List Int) (s t : Nat) (ra rb : Option Addr) (cap cap' : Nat) (r1 r2 : List Int) (w : World) (hB : IsBlk zs) (V : Valid zs) (hs : s ≤ 65536) (ht : t ≤ 65536) (hst : s ≠ t) (h0 : NoRow zs s) (h1 : NoRow zs t) (hL : r1.length ≤ 262144) (hM : r2.length ≤ 262144) (G1 : Given w ra r1) (G2 : Given w rb r2)
    (hsn : ¬ s < nRows zs) (htn : ¬ t < nRows zs) (hlt : t < s) :
    Calls Tryf.prog 4 #[.agg (cellsOf zs), .int .i64 (s : Int), .slice ra r1.length cap, .int .i64 (t : Int), .slice rb r2.length cap'] w fun e w' => e = .returned (.bool true) ∧ Below w.heap.size w w' := by
  have HB : Hid (IsBlk zs) := hB
  have HV : Hid (Valid zs) := V
  have HG1 : Hid (Given w ra r1) := G1
  have HG2 : Hid (Given w rb r2) := G2
  have HNs : Hid (NoRow zs s) := h0
  have HNt : Hid (NoRow zs t) := h1
  have hzl : zs.length = 8192 := hB.len
  have hdir : ent zs (nRows zs) ≤ rowSp zs := V.dir
  have htop : rowSp zs ≤ 8188 := V.top
  have hn4 : ent zs (nRows zs) = dirS zs + 4 * nRows zs := rfl
  have hlv : live zs (nRows zs) ≤ 8188 := by have := V.holes; omega
  have HDir : Hid (ent zs (nRows zs) ≤ 8188) := by unfold Hid; omega
  have HFr : Hid (freeOf zs = 8188 - (ent zs (nRows zs) : Int) - (live zs (nRows zs) : Int)) := freeOf_eq V
  have hnI : (nRows zs : Int) ≤ 2047 := by omega
  have hstI : ((s : Int) == (t : Int)) = false := by simp; omega
  have c1 : (nRows zs : Int) ≤ (s : Int) := by omega
  have c2 : (nRows zs : Int) ≤ (t : Int) := by omega
  have c3 : (t : Int) < (s : Int) := by omega
  clear hB V G1 G2 h0 h1
  generalize hLL : r1.length = L at *
  generalize hMM : r2.length = M at *
  have HLL : Hid (r1.length = L) := hLL
  have HMM : Hid (r2.length = M) := hMM
  clear hLL hMM
  have hLI : (L : Int) ≤ 262144 := by omega
  have hMI : (M : Int) ≤ 262144 := by omega
  have hsI : (s : Int) ≤ 65536 := by omega
  have htI : (t : Int) ≤ 65536 := by omega
  go_enter Tryf.func4, Tryf.ntmps4
  go_wp2_with (refine at_op (.load 22 (.tmp 5)) rfl ?_; refine wpList_load rfl 22 (.tmp 5) rfl Tryf.underlying22 info22 w.heap.size rfl zs hzl 22 (heap_alloc_new _ _) ?_)
  have B0 : Below w.heap.size w (w.alloc (.cells (cellsOf zs) 22)) := (Below.refl _ _).alloc (Nat.le_refl _) _
  have K0 : Hid (Blk (w.alloc (.cells (cellsOf zs) 22)) w.heap.size zs) := blk_new HB.out 22
  refine (bytes16 zs s t ra rb L M cap cap' _).mono ?_
  rintro e w1 ⟨rfl, B1'⟩
  rw [decide_eq_true (by omega : L + M ≤ 1048576)]
  have B1 := B0.trans (B1'.mono B0.size)
  have K1 : Hid (Blk w1 w.heap.size zs) := K0.out.below B1'
  clear B0 K0 B1'
  go_wp2_with fail
  refine (valid6 _ zs w1 K1.out).mono ?_
  rintro e w2 ⟨⟨b, rfl, hb⟩, B2'⟩
  obtain rfl : b = true := hb.2 HV.out
  have B2 := B1.trans (B2'.mono B1.size)
  have K2 : Hid (Blk w2 w.heap.size zs) := K1.out.below B2'
  clear B1 K1 B2' hb
  go_wp2_with fail
  refine (zu7 _ 16 16 zs w2 rfl (by omega) K2.out).mono ?_
  rintro e wq ⟨rfl, q3, rfl⟩
  rw [show u16 zs 16 = nRows zs from rfl]
  have B3 := below_drewN B2 q3
  have K3 : Hid (Blk (w2.drewN q3) w.heap.size zs) := K2.out.drewN q3
  generalize w2.drewN q3 = w3 at *
  clear B2 K2
  have HTot : Hid (∀ m, m = L + M + (max s t + 1 - nRows zs) * 4 → (m : Int) = (L : Int) + (M : Int) + 4 * ((s : Int) + 1 - (nRows zs : Int))) := by intro m hm; omega
  generalize hnr : nRows zs = n at *
  have HNR : Hid (nRows zs = n) := hnr
  generalize hde : ent zs n = de at *
  have HDE : Hid (ent zs n = de) := hde
  generalize hli : live zs n = li at *
  have HLI : Hid (live zs n = li) := hli
  clear hn4 hnr hde hli
  go_wp2_with fail
  refine (free9 _ zs _ (by rw [HNR.out, HDE.out]; exact HDir.out) K3.out).mono ?_
  rintro e wq ⟨rfl, qb, rfl⟩
  rw [HNR.out, HDE.out, HLI.out]
  have B5 := below_drewN B3 qb
  have K5 : Hid (Blk (w3.drewN qb) w.heap.size zs) := K3.out.drewN qb
  generalize w3.drewN qb = w5 at *
  clear B3 K3
  obtain ⟨t0, g0⟩ : ∃ t0, w5.heap[w.heap.size]? = some (.cells (cellsOf zs) t0 (0, 0)) := K5.out.2
  have Hg0 : Hid (w5.heap[w.heap.size]? = some (.cells (cellsOf zs) t0 (0, 0))) := g0
  clear g0
  have HFits : Hid (decide ((L : Int) + (M : Int) + 4 * ((s : Int) + 1 - (n : Int)) ≤ 8188 - (de : Int) - (li : Int)) = decide ((((r1.length + r2.length + (max s t + 1 - nRows zs) * 4 : Nat)) : Int) ≤ freeOf zs)) := by
    unfold Hid
    rw [HLL.out, HMM.out, HNR.out, HFr.out]
    rw [HTot.out _ rfl]
  clear HTot
  go_wp2_with (first | (refine at_op (.load 22 (.tmp 5)) rfl ?_; refine wpList_load rfl 22 (.tmp 5) rfl Tryf.underlying22 info22 w.heap.size rfl zs hzl t0 Hg0.out ?_) | (refine at_ops (.alloc 30) (.store 30 (.tmp 16) (.tmp 105)) rfl rfl ?_; refine wpList_new rfl rfl 30 rfl (.tmp 16) (.tmp 105) rfl made30 zs hzl rfl rfl ?_))
  have hw5 : w.heap.size < w5.heap.size := K5.out.lt
  have B6 : Below w.heap.size w (w5.alloc (.cells (cellsOf zs) 30)) := B5.alloc B5.size _
  have hR1 := restoreB w5.heap.size s ra cap r1 zs (w5.alloc (.cells (cellsOf zs) 30)) HV.out hs HNs.out (by rw [HLL.out]; omega) (blk_new HB.out 30) (HG1.out.row B6 (by omega))
  rw [HLL.out] at hR1
  refine hR1.mono ?_
  clear hR1
  have K6 : Hid (Blk (w5.alloc (.cells (cellsOf zs) 30)) w.heap.size zs) := K5.out.alloc _
  generalize w5.alloc (.cells (cellsOf zs) 30) = w6 at *
  generalize w5.heap.size = g1 at *
  clear B5 K5 Hg0
  rintro e w7 ⟨rfl, xa, hA1, K7b', r7⟩
  have HA1 : Hid (After zs s r1 xa) := hA1
  have K7b : Hid (Blk w7 g1 xa) := K7b'
  have K7 : Hid (Blk w7 w.heap.size zs) := K6.out.heap (r7.block _ K6.out.lt (by simp; omega))
  have B7 : Below w.heap.size w w7 := B6.grown r7 B6.size (fun k hk => by simp at hk; omega)
  clear K7b' r7 B6 K6 hA1
  generalize hF1 : Fits zs s L = a1 at *
  have HF1 : Hid (Fits zs s r1.length = a1) := by rw [HLL.out]; exact hF1
  clear hF1
  go_wp2_with fail
  have hR2 := restoreB g1 t rb cap' r2 xa w7 (HA1.out.valid HV.out) ht (HA1.out.other hst HNt.out) (by rw [HMM.out]; omega) K7b.out (HG2.out.row B7 (by omega))
  rw [HMM.out] at hR2
  refine hR2.mono ?_
  clear hR2
  rintro e w8 ⟨rfl, xs, hA2, K8b', r8⟩
  have HA2 : Hid (After xa t r2 xs) := hA2
  have K8b : Hid (Blk w8 g1 xs) := K8b'
  have K8 : Hid (Blk w8 w.heap.size zs) := K7.out.heap (r8.block _ K7.out.lt (by simp; omega))
  have B8 : Below w.heap.size w w8 := B7.grown r8 B7.size (fun k hk => by simp at hk; omega)
  clear K8b' r8 B7 K7 K7b hA2
  generalize hF2 : Fits xa t M = a2 at *
  have HF2 : Hid (Fits xa t r2.length = a2) := by rw [HMM.out]; exact hF2
  clear hF2
  obtain ⟨t1, g1h⟩ : ∃ t1, w8.heap[w.heap.size]? = some (.cells (cellsOf zs) t1 (0, 0)) := K8.out.2
  have Hg1 : Hid (w8.heap[w.heap.size]? = some (.cells (cellsOf zs) t1 (0, 0))) := g1h
  clear g1h
  go_wp2_with (first | (refine at_op (.load 22 (.tmp 5)) rfl ?_; refine wpList_load rfl 22 (.tmp 5) rfl Tryf.underlying22 info22 w.heap.size rfl zs hzl t1 Hg1.out ?_) | (refine at_ops (.alloc 30) (.store 30 (.tmp 19) (.tmp 112)) rfl rfl ?_; refine wpList_new rfl rfl 30 rfl (.tmp 19) (.tmp 112) rfl made30 zs hzl rfl rfl ?_))
  have hg13 : g1 < w8.heap.size := K8b.out.lt
  have B9 : Below w.heap.size w (w8.alloc (.cells (cellsOf zs) 30)) := B8.alloc B8.size _
  have hR3 := restoreB w8.heap.size t rb cap' r2 zs (w8.alloc (.cells (cellsOf zs) 30)) HV.out ht HNt.out (by rw [HMM.out]; omega) (blk_new HB.out 30) (HG2.out.row B9 (by omega))
  rw [HMM.out] at hR3
  refine hR3.mono ?_
  clear hR3
  have K9b : Hid (Blk (w8.alloc (.cells (cellsOf zs) 30)) g1 xs) := K8b.out.alloc _
  generalize w8.alloc (.cells (cellsOf zs) 30) = w9 at *
  generalize w8.heap.size = g3 at *
  clear B8 K8 K8b Hg1
  rintro e wa ⟨rfl, ya, hA3, Kac', ra3⟩
  have HA3 : Hid (After zs t r2 ya) := hA3
  have Kac : Hid (Blk wa g3 ya) := Kac'
  have Kab : Hid (Blk wa g1 xs) := K9b.out.heap (ra3.block _ K9b.out.lt (by simp; omega))
  have Ba : Below w.heap.size w wa := B9.grown ra3 B9.size (fun k hk => by simp at hk; omega)
  clear Kac' ra3 B9 K9b hA3
  generalize hF3 : Fits zs t M = b1 at *
  have HF3 : Hid (Fits zs t r2.length = b1) := by rw [HMM.out]; exact hF3
  clear hF3
  go_wp2_with fail
  have hR4 := restoreB g3 s ra cap r1 ya wa (HA3.out.valid HV.out) hs (HA3.out.other (Ne.symm hst) HNs.out) (by rw [HLL.out]; omega) Kac.out (HG1.out.row Ba (by omega))
  rw [HLL.out] at hR4
  refine hR4.mono ?_
  clear hR4
  rintro e wb ⟨rfl, ys, hA4, Kbc', rb4⟩
  have HA4 : Hid (After ya s r1 ys) := hA4
  have Kbc : Hid (Blk wb g3 ys) := Kbc'
  have Kbb : Hid (Blk wb g1 xs) := Kab.out.heap (rb4.block _ Kab.out.lt (by simp; omega))
  have Bb : Below w.heap.size w wb := Ba.grown rb4 Ba.size (fun k hk => by simp at hk; omega)
  clear Kbc' rb4 Ba Kab Kac hA4
  generalize hF4 : Fits ya s L = b2 at *
  have HF4 : Hid (Fits ya s r1.length = b2) := by rw [HLL.out]; exact hF4
  clear hF4
  generalize hft : decide ((L : Int) + (M : Int) + 4 * ((s : Int) + 1 - (n : Int)) ≤ 8188 - (de : Int) - (li : Int)) = fits at *
  clear hft
  have HX : Hid ((a1 && a2) = fits) := by
    have h := fits_both (m := r2.length) hst HA1.out
    rw [HF1.out, HF2.out] at h
    exact h.trans HFits.out.symm
  have HY : Hid ((b1 && b2) = fits) := by
    have h := fits_both' (m := r1.length) hst HA3.out
    rw [HF3.out, HF4.out] at h
    exact h.trans HFits.out.symm
  clear HFits
  cases fits
  · have HX' := HX.out
    have HY' := HY.out
    clear HX HY HA1 HA2 HA3 HA4 HF1 HF2 HF3 HF4 HLL HMM HB HV HG1 HG2 HNs HNt HNR HDE HLI HFr HDir
    cases a1 <;> cases a2 <;> (first | (exfalso; revert HX'; decide) | skip) <;> cases b1 <;> cases b2 <;> (first | (exfalso; revert HY'; decide) | skip)
    all_goals
      clear HX' HY'
      go_wp2
      go_ret
      exact ⟨rfl, Bb⟩
  obtain ⟨rfl, rfl⟩ : a1 = true ∧ a2 = true := by have := HX.out; simpa using this
  obtain ⟨rfl, rfl⟩ : b1 = true ∧ b2 = true := by have := HY.out; simpa using this
  have HA : Hid (Agree zs s t xs ys) := both hst (HA1.out.1 HF1.out) (HA2.out.1 HF2.out) (HA3.out.1 HF3.out) (HA4.out.1 HF4.out)
  clear HX HY HA1 HA2 HA3 HA4 HF1 HF2 HF3 HF4
  have hxl : xs.length = 8192 := HA.out.bx.len
  have hyl : ys.length = 8192 := HA.out.byy.len
  have HBx : Hid (IsBlk xs) := HA.out.bx
  have HBy : Hid (IsBlk ys) := HA.out.byy
  obtain ⟨t2, g2h⟩ : ∃ t2, wb.heap[g1]? = some (.cells (cellsOf xs) t2 (0, 0)) := Kbb.out.2
  have Hg2 : Hid (wb.heap[g1]? = some (.cells (cellsOf xs) t2 (0, 0))) := g2h
  clear g2h
  have Kbd : Hid (Blk (wb.alloc (.cells (cellsOf xs) 22)) g3 ys) := Kbc.out.alloc _
  obtain ⟨t3, g3h⟩ : ∃ t3, (wb.alloc (.cells (cellsOf xs) 22)).heap[g3]? = some (.cells (cellsOf ys) t3 (0, 0)) := Kbd.out.2
  have Hg3 : Hid ((wb.alloc (.cells (cellsOf xs) 22)).heap[g3]? = some (.cells (cellsOf ys) t3 (0, 0))) := g3h
  clear g3h Kbd
  go_wp2_with (first | (refine at_op (.load 30 (.tmp 16)) rfl ?_; refine wpList_load rfl 30 (.tmp 16) rfl Tryf.underlying30 info30 g1 rfl xs hxl t2 Hg2.out ?_) | (refine at_ops (.alloc 22) (.store 22 (.tmp 22) (.tmp 135)) rfl rfl ?_; refine wpList_new rfl rfl 22 rfl (.tmp 22) (.tmp 135) rfl made22 xs hxl rfl rfl ?_) | (refine at_op (.load 30 (.tmp 19)) rfl ?_; refine wpList_load rfl 30 (.tmp 19) rfl Tryf.underlying30 info30 g3 rfl ys hyl t3 Hg3.out ?_) | (refine at_ops (.alloc 22) (.store 22 (.tmp 23) (.tmp 136)) rfl rfl ?_; refine wpList_new rfl rfl 22 rfl (.tmp 23) (.tmp 136) rfl made22 ys hyl rfl rfl ?_))
  have Bc : Below w.heap.size w (wb.alloc (.cells (cellsOf xs) 22)) := Bb.alloc Bb.size _
  have Kcx : Hid (Blk (wb.alloc (.cells (cellsOf xs) 22)) wb.heap.size xs) := blk_new HBx.out 22
  have hsz : (wb.alloc (.cells (cellsOf xs) 22)).heap.size = wb.heap.size + 1 := by first | exact Array.size_push _ | simp
  generalize wb.alloc (.cells (cellsOf xs) 22) = wc at *
  generalize wb.heap.size = p at *
  clear Hg2 Hg3 Kbb Kbc Bb
  have Bd : Below w.heap.size w (wc.alloc (.cells (cellsOf ys) 22)) := Bc.alloc Bc.size _
  have Kdx : Hid (Blk (wc.alloc (.cells (cellsOf ys) 22)) p xs) := Kcx.out.alloc _
  have Kdy : Hid (Blk (wc.alloc (.cells (cellsOf ys) 22)) (p + 1) ys) := by rw [← hsz]; exact blk_new HBy.out 22
  generalize wc.alloc (.cells (cellsOf ys) 22) = wd at *
  clear hsz
  generalize p + 1 = q at *
  clear Bc Kcx
  refine (valid6 p xs wd Kdx.out).mono ?_
  rintro e we ⟨⟨b, rfl, hb⟩, Be'⟩
  obtain rfl : b = true := hb.2 HA.out.vx
  have Kex : Hid (Blk we p xs) := Kdx.out.below Be'
  have Key : Hid (Blk we q ys) := Kdy.out.below Be'
  have Be := Bd.trans (Be'.mono Bd.size)
  clear hb Kdx Kdy Bd Be'
  go_wp2_with fail
  refine (valid6 q ys we Key.out).mono ?_
  rintro e wf ⟨⟨b, rfl, hb⟩, Bf'⟩
  obtain rfl : b = true := hb.2 HA.out.vy
  have Kfx : Hid (Blk wf p xs) := Kex.out.below Bf'
  have Kfy : Hid (Blk wf q ys) := Key.out.below Bf'
  have Bf := Be.trans (Bf'.mono Be.size)
  clear hb Kex Key Be Bf'
  have HD8 : Hid (dirS xs ≤ 8188) := by
    have h1 := HA.out.vx.dir
    have h2 := HA.out.vx.top
    unfold Hid
    unfold ent at h1
    omega
  go_wp2_with fail
  refine (hdr12 p q xs ys wf HD8.out HA.out.hdr Kfx.out Kfy.out).mono ?_
  rintro e wg ⟨rfl, q1, rfl⟩
  have HRX : Hid (nRows xs = (s + 1)) := by have := HA.out.rx; rw [HNR.out] at this; unfold Hid; omega
  have HRY : Hid (nRows ys = (s + 1)) := by have := HA.out.ry; rw [HNR.out] at this; unfold Hid; omega
  have HRXI : Hid ((u16 xs 16 : Int) = ((s : Int) + 1)) := by have := HRX.out; have e : u16 xs 16 = nRows xs := rfl; unfold Hid; omega
  have HRYI : Hid ((u16 ys 16 : Int) = ((s : Int) + 1)) := by have := HRY.out; have e : u16 ys 16 = nRows ys := rfl; unfold Hid; omega
  go_wp2_with fail
  refine (zu7 p 16 16 xs _ rfl (by omega) (Kfx.out.drewN _)).mono ?_
  rintro e wg ⟨rfl, q2, rfl⟩
  rw [HRXI.out]
  go_wp2_with fail
  refine (zu7 q 16 16 ys _ rfl (by omega) (Kfy.out.drewN _)).mono ?_
  rintro e wg ⟨rfl, q3, rfl⟩
  rw [HRYI.out]
  have HE : Hid (∀ i, i < (s + 1) → ent xs i + 4 ≤ 8188) := by
    intro i hi
    have h1 := HA.out.vx.dir
    have h2 := HA.out.vx.top
    rw [HRX.out] at h1
    unfold ent at *
    omega
  have HEy : Hid (∀ i, i < (s + 1) → ent ys i + 4 ≤ 8188) := by
    intro i hi
    rw [HA.out.ey i, ← HA.out.ex i]
    exact HE.out i hi
  have HFx : Hid (∀ i, i < (s + 1) → offOf xs i ≠ 0 → offOf xs i + lenOf xs i ≤ 8188) := fun i hi h => (HA.out.vx.upto.fits i (by rw [HRX.out]; exact hi) h).2
  have HFy : Hid (∀ i, i < (s + 1) → offOf ys i ≠ 0 → offOf ys i + lenOf ys i ≤ 8188) := fun i hi h => (HA.out.vy.upto.fits i (by rw [HRY.out]; exact hi) h).2
  have HSl : Hid (∀ i, i < (s + 1) → SlotSame xs ys i) := fun i hi => HA.out.slot i (by rw [HRX.out]; exact hi)
  clear HRX HRY HRXI HRYI HD8 HA
  clear HLL HMM HB HV HG1 HG2 HNs HNt HNR HDE HLI HFr HDir HBx HBy
  clear hs ht hL hM hxl hyl hzl hdir htop hlv hg13 hw5
  go_wp2
  go_loopw [25] (fun ii wr => ∃ k nq : Nat, k ≤ (s + 1) ∧ ii = .int .i64 k ∧ wr = wf.drewN nq) (fun ii _ => (s + 1) - (intOf ii).toNat)
  case atStart => exact ⟨0, _, Nat.zero_le _, rfl, rfl⟩
  case round =>
    obtain ⟨k, nq, hk, rfl, rfl⟩ := hrel
    by_cases hkl : k < (s + 1)
    · have hkI : (k : Int) < ((s : Int) + 1) := by omega
      have hS := slot15 p q (k : Int) k xs ys (wf.drewN nq) rfl (HE.out k hkl) (HEy.out k hkl) (HFx.out k hkl) (HFy.out k hkl) (HSl.out k hkl) (Kfx.out.drewN _) (Kfy.out.drewN _)
      go_wp2_with fail
      refine hS.mono ?_
      rintro e wd ⟨rfl, q4, rfl⟩
      go_wp2
      go_roundw
      case rel => exact ⟨k + 1, _, by omega, by go_num, rfl⟩
      case measure => simp [intOf] <;> omega
    · have hkI : ((s : Int) + 1) ≤ (k : Int) := by omega
      go_wp2
      go_ret
      exact ⟨rfl, below_drewN Bf _⟩
end Go.Proofs.Qxb6612825aFmt
