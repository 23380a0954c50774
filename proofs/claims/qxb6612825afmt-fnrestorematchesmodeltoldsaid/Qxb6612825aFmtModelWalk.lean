/-
  FnRestoreMatchesModel, WALKED.
-/
import Derived.Test.Qxb6612825aFmtBytes
namespace Go.Proofs.Qxb6612825aFmt
open Go.RowKit Go.Proofs.Qxb6612825aFmt.Big
set_option linter.unusedVariables false

/-- A row given: where its bytes lie. -/
def Given (w : World) (ra : Option Addr) (rs : List Int) : Prop :=
  (∀ z ∈ rs, (Lit.int .u8 z).wf = true) ∧ (rs = [] ∨ ∃ rb ro, ra = some ⟨rb, ro, none⟩ ∧ rb < w.heap.size ∧ ∀ j, j < rs.length → w.cell? ⟨rb, ro + j, none⟩ = some (.int .u8 (rs.getD j 0)))
theorem Given.row {w w' : World} {ra : Option Addr} {rs : List Int} {g : Nat} (h : Given w ra rs) (b : Below w.heap.size w w') (hg : w.heap.size ≤ g) : RowIs w' g ra rs := by
  obtain ⟨h1, h2⟩ := h
  refine ⟨h1, ?_⟩
  rcases h2 with h2 | ⟨rb, ro, e, hl, hc⟩
  · exact .inl h2
  · exact .inr ⟨rb, ro, e, by omega, Nat.lt_of_lt_of_le hl b.size, fun j hj => by rw [World.cell?_of_block (a := ⟨rb, ro + j, none⟩) (b.block rb hl)]; exact hc j hj⟩
theorem blk_new {w : World} {zs : List Int} (hB : IsBlk zs) (t : TypeId) : Blk (w.alloc (.cells (cellsOf zs) t)) w.heap.size zs := ⟨hB, t, heap_alloc_new _ _⟩
theorem Blk.alloc {w : World} {g : Nat} {zs : List Int} (h : Blk w g zs) (o : Obj) : Blk (w.alloc o) g zs := h.heap (Below.heap_alloc _ _ _ h.lt)

/-- Slot t, if it is one, is empty. -/
def NoRow (zs : List Int) (t : Nat) : Prop := t < nRows zs → offOf zs t = 0

set_option maxRecDepth 100000 in
set_option maxHeartbeats 4000000 in
theorem model3 (zs : List Int) (s : Int) (ra : Option Addr) (cap : Nat) (rs : List Int) (w : World) (hB : IsBlk zs) (G : Given w ra rs) :
    Calls Tryf.prog 3 #[.agg (cellsOf zs), .int .i64 s, .slice ra rs.length cap] w fun e w' => e = .returned (.bool true) ∧ Below w.heap.size w w' := by
  have HB : Hid (IsBlk zs) := hB
  have HG : Hid (Given w ra rs) := G
  have hzl : zs.length = 8192 := hB.len
  clear hB G
  generalize hLL : rs.length = L
  have HLL : Hid (rs.length = L) := hLL
  clear hLL
  go_enter Tryf.func3, Tryf.ntmps3
  go_wp2_with (refine at_op (.load 22 (.tmp 3)) rfl ?_; refine wpList_load rfl 22 (.tmp 3) rfl Tryf.underlying22 info22 w.heap.size rfl zs hzl 22 (heap_alloc_new _ _) ?_)
  have B0 : Below w.heap.size w (w.alloc (.cells (cellsOf zs) 22)) := (Below.refl _ _).alloc (Nat.le_refl _) _
  have K0 : Hid (Blk (w.alloc (.cells (cellsOf zs) 22)) w.heap.size zs) := blk_new HB.out 22
  refine (bytes5 zs s ra L cap _).mono ?_
  rintro e w1 ⟨rfl, B1'⟩
  have B1 := B0.trans (B1'.mono B0.size)
  have K1 : Hid (Blk w1 w.heap.size zs) := K0.out.below B1'
  clear B0 K0 B1'
  by_cases hL : L ≤ 524288
  rotate_left
  · have h2 : (524288 : Int) < (L : Int) := by omega
    by_cases hL2 : L ≤ 1048576
    · rw [decide_eq_true hL2]
      go_wp2
      go_ret
      exact ⟨rfl, B1⟩
    · rw [decide_eq_false hL2]
      go_wp2
      go_ret
      exact ⟨rfl, B1⟩
  rw [decide_eq_true (by omega : L ≤ 1048576)]
  by_cases hs0 : 0 ≤ s
  rotate_left
  · have : s < 0 := by omega
    go_wp2
    go_ret
    exact ⟨rfl, B1⟩
  by_cases hs1 : s ≤ 65536
  rotate_left
  · have : 65536 < s := by omega
    go_wp2
    go_ret
    exact ⟨rfl, B1⟩
  obtain ⟨t, rfl⟩ : ∃ t : Nat, s = (t : Int) := ⟨s.toNat, by omega⟩
  go_wp2_with fail
  refine (valid6 _ zs w1 K1.out).mono ?_
  rintro e w2 ⟨⟨b, rfl, hV⟩, B2'⟩
  have B2 := B1.trans (B2'.mono B1.size)
  have K2 : Hid (Blk w2 w.heap.size zs) := K1.out.below B2'
  have HVb : Hid (b = true ↔ Valid zs) := hV
  clear B1 K1 B2' hV
  cases b
  · go_wp2
    go_ret
    exact ⟨rfl, B2⟩
  have HV : Hid (Valid zs) := HVb.out.1 rfl
  clear HVb
  have l16 : nRows zs < 65536 := HB.out.u16_lt 16
  have ht : t ≤ 65536 := by omega
  go_wp2_with fail
  refine (zu7 _ 16 16 zs w2 rfl (by omega) K2.out).mono ?_
  rintro e w3 ⟨rfl, q3, rfl⟩
  rw [show u16 zs 16 = nRows zs from rfl]
  have B3 := below_drewN B2 q3
  have K3 : Hid (Blk (w2.drewN q3) w.heap.size zs) := K2.out.drewN q3
  generalize w2.drewN q3 = w3 at *
  clear B2 K2
  by_cases htn : t < nRows zs
  · have hdir : ent zs (nRows zs) ≤ rowSp zs := HV.out.dir
    have htop : rowSp zs ≤ 8188 := HV.out.top
    have hn4 : ent zs (nRows zs) = dirS zs + 4 * nRows zs := rfl
    have htn' : (t : Int) < (nRows zs : Int) := by omega
    have hent : ent zs t + 4 ≤ ent zs (nRows zs) := ent_lt htn
    go_wp2_with fail
    refine (empty8 _ (t : Int) t zs w3 rfl (by omega) K3.out).mono ?_
    rintro e w4 ⟨rfl, qa, rfl⟩
    by_cases hem : offOf zs t = 0
    rotate_left
    · have : emptyB zs t = false := decide_eq_false hem
      rw [this]
      go_wp2
      go_ret
      exact ⟨rfl, below_drewN B3 _⟩
    have H0 : Hid (NoRow zs t) := fun _ => hem
    rw [show emptyB zs t = true from decide_eq_true hem]
    clear hem hent
    have B4 := below_drewN B3 qa
    have K4 : Hid (Blk (w3.drewN qa) w.heap.size zs) := K3.out.drewN qa
    generalize w3.drewN qa = w4 at *
    clear B3 K3
    have HNd : Hid (needOf zs t rs.length = rs.length) := needOf_in htn
    have HFr : Hid (freeOf zs = 8188 - (ent zs (nRows zs) : Int) - (live zs (nRows zs) : Int)) := freeOf_eq HV.out
    have hlv : live zs (nRows zs) ≤ 8188 := by have := HV.out.holes; omega
    rw [HLL.out] at HNd
    have HD8 : Hid (dirS zs ≤ 8188) := by unfold Hid; omega
    have HDir : Hid (ent zs (nRows zs) ≤ 8188) := by unfold Hid; omega
    have HN : Hid (nRows zs ≤ 2047) := by unfold Hid; omega
    generalize hnr : nRows zs = n at *
    have HNR : Hid (nRows zs = n) := hnr
    generalize hde : ent zs n = de at *
    have HDE : Hid (ent zs n = de) := hde
    generalize hli : live zs n = li at *
    clear hn4
    have HLI : Hid (live zs n = li) := hli
    clear hnr hde hli
    go_wp2_with fail
    refine (free9 _ zs w4 (by rw [HNR.out, HDE.out]; exact HDir.out) K4.out).mono ?_
    rintro e w5 ⟨rfl, qb, rfl⟩
    rw [HNR.out, HDE.out, HLI.out]
    have B5 := below_drewN B4 qb
    have K5 : Hid (Blk (w4.drewN qb) w.heap.size zs) := K4.out.drewN qb
    generalize w4.drewN qb = w5 at *
    clear B4 K4
    obtain ⟨t0, g0⟩ : ∃ t0, w5.heap[w.heap.size]? = some (.cells (cellsOf zs) t0 (0, 0)) := K5.out.2
    have Hg0 : Hid (w5.heap[w.heap.size]? = some (.cells (cellsOf zs) t0 (0, 0))) := g0
    clear g0
    go_wp2_with (first | (refine at_op (.load 22 (.tmp 3)) rfl ?_; refine wpList_load rfl 22 (.tmp 3) rfl Tryf.underlying22 info22 w.heap.size rfl zs hzl t0 Hg0.out ?_) | (refine at_ops (.alloc 30) (.store 30 (.tmp 11) (.tmp 60)) rfl rfl ?_; refine wpList_new rfl rfl 30 rfl (.tmp 11) (.tmp 60) rfl made30 zs hzl rfl rfl ?_))
    have hw5 : w.heap.size < w5.heap.size := K5.out.lt
    have hRs := restore10 w5.heap.size t ra cap rs zs (w5.alloc (.cells (cellsOf zs) 30)) HV.out ht H0.out (by rw [HLL.out]; exact hL) (blk_new HB.out 30) (HG.out.row (B5.alloc B5.size _) (by omega))
    rw [HLL.out] at hRs
    refine hRs.mono ?_
    clear hRs
    have B6 : Below w.heap.size w (w5.alloc (.cells (cellsOf zs) 30)) := B5.alloc B5.size _
    have K6 : Hid (Blk (w5.alloc (.cells (cellsOf zs) 30)) w.heap.size zs) := K5.out.alloc _
    have K6b : Hid (Blk (w5.alloc (.cells (cellsOf zs) 30)) w5.heap.size zs) := blk_new HB.out 30
    generalize w5.alloc (.cells (cellsOf zs) 30) = w6 at *
    generalize w5.heap.size = g1 at *
    clear B5 K5 Hg0
    rintro e w7 hR
    unfold Restored at hR
    rw [HLL.out, HNd.out, HFr.out] at hR
    rcases hR with ⟨rfl, hlt, B7'⟩ | ⟨rfl, hle, zs', hP, K7b', r7⟩
    · have hcmp : 8188 - (de : Int) - (li : Int) < (L : Int) := by omega
      have B7 := B6.trans (B7'.mono B6.size)
      have K7 : Hid (Blk w7 w.heap.size zs) := K6.out.below B7'
      have K7b : Hid (Blk w7 g1 zs) := K6b.out.below B7'
      clear B6 K6 K6b B7'
      obtain ⟨t1, g1h⟩ : ∃ t1, w7.heap[g1]? = some (.cells (cellsOf zs) t1 (0, 0)) := K7b.out.2
      have Hg1 : Hid (w7.heap[g1]? = some (.cells (cellsOf zs) t1 (0, 0))) := g1h
      clear g1h
      go_wp2_with (first | (refine at_op (.load 30 (.tmp 11)) rfl ?_; refine wpList_load rfl 30 (.tmp 11) rfl Tryf.underlying30 info30 g1 rfl zs hzl t1 Hg1.out ?_) | (refine at_ops (.alloc 22) (.store 22 (.tmp 13) (.tmp 64)) rfl rfl ?_; refine wpList_new rfl rfl 22 rfl (.tmp 13) (.tmp 64) rfl made22 zs hzl rfl rfl ?_))
      refine (same11 _ _ zs _ (blk_new HB.out 22) (K7.out.alloc _)).mono ?_
      rintro e w8 ⟨rfl, q8, rfl⟩
      go_wp2
      go_ret
      exact ⟨rfl, below_drewN (B7.alloc B7.size _) _⟩
    · have D : Hid (Done zs t rs zs') := placed_done HB.out HV.out H0.out HG.out.1 hP
      have hcmp : (L : Int) ≤ 8188 - (de : Int) - (li : Int) := by omega
      have K7b : Hid (Blk w7 g1 zs') := K7b'
      have K7 : Hid (Blk w7 w.heap.size zs) := K6.out.heap (r7.block _ K6.out.lt (by simp; omega))
      have B7 : Below w.heap.size w w7 := B6.grown r7 B6.size (fun k hk => by simp at hk; omega)
      have hzl' : zs'.length = 8192 := D.out.blk.len
      clear K7b' r7 B6 K6 K6b hP hle
      obtain ⟨t1, g1h⟩ : ∃ t1, w7.heap[g1]? = some (.cells (cellsOf zs') t1 (0, 0)) := K7b.out.2
      have Hg1 : Hid (w7.heap[g1]? = some (.cells (cellsOf zs') t1 (0, 0))) := g1h
      clear g1h
      go_wp2_with (first | (refine at_op (.load 30 (.tmp 11)) rfl ?_; refine wpList_load rfl 30 (.tmp 11) rfl Tryf.underlying30 info30 g1 rfl zs' hzl' t1 Hg1.out ?_) | (refine at_ops (.alloc 22) (.store 22 (.tmp 13) (.tmp 64)) rfl rfl ?_; refine wpList_new rfl rfl 22 rfl (.tmp 13) (.tmp 64) rfl made22 zs' hzl' rfl rfl ?_))
      have K8 : Hid (Blk (w7.alloc (.cells (cellsOf zs') 22)) w.heap.size zs) := K7.out.alloc _
      have K8b : Hid (Blk (w7.alloc (.cells (cellsOf zs') 22)) g1 zs') := K7b.out.alloc _
      have K8c : Hid (Blk (w7.alloc (.cells (cellsOf zs') 22)) w7.heap.size zs') := blk_new D.out.blk 22
      have B8 : Below w.heap.size w (w7.alloc (.cells (cellsOf zs') 22)) := B7.alloc B7.size _
      have hg2 : w.heap.size ≤ w7.heap.size := B7.size
      generalize w7.alloc (.cells (cellsOf zs') 22) = w8 at *
      generalize w7.heap.size = g2 at *
      clear K7 K7b B7 Hg1
      refine (valid6 g2 zs' w8 K8c.out).mono ?_
      rintro e w9 ⟨⟨b, rfl, hb⟩, B9'⟩
      obtain rfl : b = true := hb.2 D.out.valid
      have K9 : Hid (Blk w9 w.heap.size zs) := K8.out.below B9'
      have K9b : Hid (Blk w9 g1 zs') := K8b.out.below B9'
      have K9c : Hid (Blk w9 g2 zs') := K8c.out.below B9'
      have B9 := B8.trans (B9'.mono B8.size)
      clear hb K8 K8b K8c B8 B9'
      go_wp2_with fail
      refine (hdr12 w.heap.size g2 zs zs' w9 HD8.out D.out.hdr K9.out K9c.out).mono ?_
      rintro e wa ⟨rfl, q1, rfl⟩
      go_wp2_with fail
      refine (zu7 g2 16 16 zs' _ rfl (by omega) (K9c.out.drewN _)).mono ?_
      rintro e wa ⟨rfl, q2, rfl⟩
      have HR' : Hid ((u16 zs' 16 : Int) = (n : Int)) := by
        have := D.out.rows
        rw [HNR.out] at this
        have e : u16 zs' 16 = nRows zs' := rfl
        unfold Hid
        omega
      rw [HR'.out]
      have HF' : Hid ((rowSp zs' : Int) - (ent zs' (nRows zs') : Int) + (u16 zs' 28 : Nat) = 8188 - (de : Int) - (li : Int) - ((L : Int))) := by
        have := D.out.free
        rw [HLL.out, HNd.out, HFr.out] at this
        unfold freeOf at this
        unfold Hid
        omega
      go_wp2_with fail
      refine (free13 g1 zs' _ (K9b.out.drewN _)).mono ?_
      rintro e wb ⟨rfl, Bb'⟩
      rw [HF'.out]
      have Ka : Hid (Blk wb w.heap.size zs) := (K9.out.drewN _).below Bb'
      have Kc : Hid (Blk wb g2 zs') := (K9c.out.drewN _).below Bb'
      have Bb : Below w.heap.size w wb := (below_drewN B9 _).trans (Bb'.mono (below_drewN B9 _).size)
      clear K9 K9b K9c B9 Bb'
      go_wp2_with fail
      refine (dir14 g2 zs' wb Kc.out).mono ?_
      rintro e wc ⟨rfl, q3, rfl⟩
      have Kx : Hid (Blk (wb.drewN q3) w.heap.size zs) := Ka.out.drewN _
      have Ky : Hid (Blk (wb.drewN q3) g2 zs') := Kc.out.drewN _
      have BV : Below w.heap.size w (wb.drewN q3) := below_drewN Bb _
      generalize wb.drewN q3 = V at *
      clear Ka Kc Bb HF'
      have HRw : Hid (RowIs V g2 ra rs) := HG.out.row BV hg2
      have hd0 : ent zs' 0 = dirS zs' := rfl
      have HE : Hid (∀ i, i < n → ent zs' i + 4 ≤ 8188) := by
        intro i hi
        have h1 := D.out.valid.dir
        have h2 := D.out.valid.top
        have h3 : nRows zs' = n := by have := HR'.out; have e : u16 zs' 16 = nRows zs' := rfl; omega
        rw [h3] at h1
        unfold ent at *
        omega
      have HEx : Hid (∀ i, ent zs' i = ent zs i) := D.out.ent
      have HEd : Hid (∀ i, ent zs' i = dirS zs' + 4 * i) := fun i => rfl
      have hd1 : dirS zs' ≤ 8188 := by have := HE.out t (by omega); have := HEd.out t; omega
      have HO : Hid (offOf zs' t ≠ 0) := D.out.off
      have hOf : offOf zs' t + L ≤ 8188 := by
        have h3 : nRows zs' = n := by have := HR'.out; have e : u16 zs' 16 = nRows zs' := rfl; omega
        have h1 := (D.out.valid.upto.fits t (by rw [h3]; omega) HO.out).2
        have h2 : lenOf zs' t = L := by
          unfold lenOf
          have := D.out.short
          rw [D.out.raw, HLL.out]
          rw [HLL.out] at this
          omega
        omega
      have HW : Hid (rawOf zs' t = L) := D.out.raw.trans HLL.out
      clear hd0 HR'
      have HOf : Hid (offOf zs' t + L ≤ 8188) := hOf
      have hLI : (L : Int) ≤ 524288 := by omega
      have htI : (t : Int) ≤ 65536 := by omega
      have hnI : (n : Int) ≤ 2047 := by have := HN.out; omega
      have hdI : (dirS zs' : Int) ≤ 8188 := by omega
      generalize hdd : dirS zs' = d at *
      clear hdd hOf hL ht l16 hd1 hlv hzl hzl' htop hdir hcmp hw5 hg2 hs0 hs1
      go_wp2
      go_loopw [15] (fun ii wr => ∃ k nq : Nat, k ≤ n ∧ ii = .int .i64 k ∧ wr = V.drewN nq) (fun ii _ => n - (intOf ii).toNat)
      case atStart => exact ⟨0, 0, Nat.zero_le _, rfl, rfl⟩
      case round =>
        obtain ⟨k, nq, hk, rfl, rfl⟩ := hrel
        by_cases hkl : k < n
        · have hkI : (k : Int) < (n : Int) := by omega
          have He : Hid (ent zs' k + 4 ≤ 8188) := HE.out k hkl
          have Hed : Hid (ent zs' k = d + 4 * k) := HEd.out k
          have bd : (d : Int) + 4 * (k : Int) ≤ 8188 := by have := He.out; have := Hed.out; omega
          by_cases hkt : k = t
          · subst hkt
            have hOk : Hid (offOf zs' k + L ≤ 8188) := HOf.out
            have HOk : Hid (offOf zs' k ≠ 0) := HO.out
            have HWk : Hid (rawOf zs' k = L) := HW.out
            have HRk : Hid (∀ j, j < L → zs'.getD (offOf zs' k + j) 0 = rs.getD j 0) := by
              intro j hj
              exact D.out.row j (by rw [HLL.out]; exact hj)
            go_wp2_with fail
            refine (zu7 g2 ((d : Int) + 4 * (k : Int)) (ent zs' k) zs' _ (by have := Hed.out; omega) (by have := He.out; omega) (Ky.out.drewN _)).mono ?_
            rintro e wd ⟨rfl, q4, rfl⟩
            rw [show Qxb6612825aFmt.u16 zs' (ent zs' k) = offOf zs' k from rfl]
            have hoi : ((offOf zs' k : Int) == 0) = false := by have := HOk.out; simp; omega
            go_wp2_with fail
            refine (zu7 g2 ((d : Int) + 4 * (k : Int) + 2) (ent zs' k + 2) zs' _ (by have := Hed.out; omega) (by have := He.out; omega) (Ky.out.drewN _)).mono ?_
            rintro e wd ⟨rfl, q5, rfl⟩
            rw [show Qxb6612825aFmt.u16 zs' (ent zs' k + 2) = rawOf zs' k from rfl, HWk.out]
            generalize offOf zs' k = of at *
            have hofI : (of : Int) ≤ 8188 := by have := hOk.out; omega
            go_wp2
            go_loopw [18] (fun jj wr => ∃ j m : Nat, j ≤ L ∧ jj = .int .i64 j ∧ wr = V.drewN m) (fun jj _ => L - (intOf jj).toNat)
            case atStart => exact ⟨0, _, Nat.zero_le _, rfl, rfl⟩
            case round =>
              obtain ⟨j, m, hj, rfl, rfl⟩ := hrel
              by_cases hjl : j < L
              · have hjI : (j : Int) < (L : Int) := by omega
                rcases HRw.out.2 with h | ⟨rb, ro, hra, _, _, hc⟩
                · exfalso
                  have := HLL.out
                  rw [h] at this
                  simp at this
                  omega
                subst hra
                have c1 : V.cell? ⟨g2, of + j, none⟩ = some (.int .u8 (rs.getD j 0)) := by rw [Ky.out.cell (of + j) (by have := hOk.out; omega), HRk.out j hjl]
                have c2 : V.cell? ⟨rb, ro + j, none⟩ = some (.int .u8 (rs.getD j 0)) := hc j (by rw [HLL.out]; exact hjl)
                have b1 : (of : Int) + (j : Int) < 8192 := by have := hOk.out; omega
                clear hc HB HG HV H0 HNd HFr HD8 HDir HN HNR HDE HLI HLL D HE HEx HEd HO HOf HW Kx Ky BV HRk HOk HWk hOk HRw He Hed
                generalize rs.getD j 0 = x at c1 c2
                go_wp2
                go_quiet (fail)
                go_wp2
                go_roundw
                case rel => exact ⟨j + 1, _, by omega, by go_num, rfl⟩
                case measure => simp [intOf] <;> omega
              · have hjI : (L : Int) ≤ (j : Int) := by omega
                go_wp2
                go_roundw
                case rel => exact ⟨k + 1, _, by omega, by go_num, rfl⟩
                case measure => simp [intOf] <;> omega
          · have hkt' : ((k : Int) == (t : Int)) = false := by simp; omega
            by_cases hkn : k < n
            · have hknI : (k : Int) < (n : Int) := by omega
              have hS := slot15 w.heap.size g2 (k : Int) k zs zs' (V.drewN nq) rfl (by rw [← HEx.out]; exact He.out) He.out (fun h => (HV.out.upto.fits k (by rw [HNR.out]; exact hkn) h).2) (fun h => (D.out.valid.upto.fits k (by have := D.out.rows; rw [HNR.out] at this; omega) h).2) (D.out.old k (by rw [HNR.out]; exact hkn) hkt) (Kx.out.drewN _) (Ky.out.drewN _)
              go_wp2_with fail
              refine hS.mono ?_
              rintro e wd ⟨rfl, q4, rfl⟩
              go_wp2
              go_roundw
              case rel => exact ⟨k + 1, _, by omega, by go_num, rfl⟩
              case measure => simp [intOf] <;> omega
            · have hknI : (n : Int) ≤ (k : Int) := by omega
              go_wp2_with fail
              refine (empty8 g2 (k : Int) k zs' _ rfl (by have := He.out; omega) (Ky.out.drewN _)).mono ?_
              rintro e wd ⟨rfl, q4, rfl⟩
              rw [show emptyB zs' k = true from decide_eq_true (D.out.new k (by rw [HNR.out]; omega) (by omega))]
              go_wp2
              go_roundw
              case rel => exact ⟨k + 1, _, by omega, by go_num, rfl⟩
              case measure => simp [intOf] <;> omega
        · have hkI : (n : Int) ≤ (k : Int) := by omega
          go_wp2
          go_ret
          exact ⟨rfl, below_drewN BV _⟩
  · have hdir : ent zs (nRows zs) ≤ rowSp zs := HV.out.dir
    have htop : rowSp zs ≤ 8188 := HV.out.top
    have hn4 : ent zs (nRows zs) = dirS zs + 4 * nRows zs := rfl
    have H0 : Hid (NoRow zs t) := fun h => absurd h htn
    have htn' : (nRows zs : Int) ≤ (t : Int) := by omega
    have B4 := B3
    have K4 := K3
    clear B3 K3
    have HNd : Hid (needOf zs t rs.length = rs.length + (t + 1 - nRows zs) * 4) := needOf_out htn
    have HFr : Hid (freeOf zs = 8188 - (ent zs (nRows zs) : Int) - (live zs (nRows zs) : Int)) := freeOf_eq HV.out
    have hlv : live zs (nRows zs) ≤ 8188 := by have := HV.out.holes; omega
    rw [HLL.out] at HNd
    have HD8 : Hid (dirS zs ≤ 8188) := by unfold Hid; omega
    have HDir : Hid (ent zs (nRows zs) ≤ 8188) := by unfold Hid; omega
    have HN : Hid (nRows zs ≤ 2047) := by unfold Hid; omega
    generalize hnr : nRows zs = n at *
    have HNR : Hid (nRows zs = n) := hnr
    generalize hde : ent zs n = de at *
    have HDE : Hid (ent zs n = de) := hde
    generalize hli : live zs n = li at *
    clear hn4
    have HLI : Hid (live zs n = li) := hli
    clear hnr hde hli
    go_wp2_with fail
    refine (free9 _ zs w3 (by rw [HNR.out, HDE.out]; exact HDir.out) K4.out).mono ?_
    rintro e w5 ⟨rfl, qb, rfl⟩
    rw [HNR.out, HDE.out, HLI.out]
    have B5 := below_drewN B4 qb
    have K5 : Hid (Blk (w3.drewN qb) w.heap.size zs) := K4.out.drewN qb
    generalize w3.drewN qb = w5 at *
    clear B4 K4
    obtain ⟨t0, g0⟩ : ∃ t0, w5.heap[w.heap.size]? = some (.cells (cellsOf zs) t0 (0, 0)) := K5.out.2
    have Hg0 : Hid (w5.heap[w.heap.size]? = some (.cells (cellsOf zs) t0 (0, 0))) := g0
    clear g0
    go_wp2_with (first | (refine at_op (.load 22 (.tmp 3)) rfl ?_; refine wpList_load rfl 22 (.tmp 3) rfl Tryf.underlying22 info22 w.heap.size rfl zs hzl t0 Hg0.out ?_) | (refine at_ops (.alloc 30) (.store 30 (.tmp 11) (.tmp 60)) rfl rfl ?_; refine wpList_new rfl rfl 30 rfl (.tmp 11) (.tmp 60) rfl made30 zs hzl rfl rfl ?_))
    have hw5 : w.heap.size < w5.heap.size := K5.out.lt
    have hRs := restore10 w5.heap.size t ra cap rs zs (w5.alloc (.cells (cellsOf zs) 30)) HV.out ht H0.out (by rw [HLL.out]; exact hL) (blk_new HB.out 30) (HG.out.row (B5.alloc B5.size _) (by omega))
    rw [HLL.out] at hRs
    refine hRs.mono ?_
    clear hRs
    have B6 : Below w.heap.size w (w5.alloc (.cells (cellsOf zs) 30)) := B5.alloc B5.size _
    have K6 : Hid (Blk (w5.alloc (.cells (cellsOf zs) 30)) w.heap.size zs) := K5.out.alloc _
    have K6b : Hid (Blk (w5.alloc (.cells (cellsOf zs) 30)) w5.heap.size zs) := blk_new HB.out 30
    generalize w5.alloc (.cells (cellsOf zs) 30) = w6 at *
    generalize w5.heap.size = g1 at *
    clear B5 K5 Hg0
    rintro e w7 hR
    unfold Restored at hR
    rw [HLL.out, HNd.out, HFr.out] at hR
    rcases hR with ⟨rfl, hlt, B7'⟩ | ⟨rfl, hle, zs', hP, K7b', r7⟩
    · have hcmp : 8188 - (de : Int) - (li : Int) < (L : Int) + 4 * ((t : Int) + 1 - (n : Int)) := by omega
      have B7 := B6.trans (B7'.mono B6.size)
      have K7 : Hid (Blk w7 w.heap.size zs) := K6.out.below B7'
      have K7b : Hid (Blk w7 g1 zs) := K6b.out.below B7'
      clear B6 K6 K6b B7'
      obtain ⟨t1, g1h⟩ : ∃ t1, w7.heap[g1]? = some (.cells (cellsOf zs) t1 (0, 0)) := K7b.out.2
      have Hg1 : Hid (w7.heap[g1]? = some (.cells (cellsOf zs) t1 (0, 0))) := g1h
      clear g1h
      go_wp2_with (first | (refine at_op (.load 30 (.tmp 11)) rfl ?_; refine wpList_load rfl 30 (.tmp 11) rfl Tryf.underlying30 info30 g1 rfl zs hzl t1 Hg1.out ?_) | (refine at_ops (.alloc 22) (.store 22 (.tmp 13) (.tmp 64)) rfl rfl ?_; refine wpList_new rfl rfl 22 rfl (.tmp 13) (.tmp 64) rfl made22 zs hzl rfl rfl ?_))
      refine (same11 _ _ zs _ (blk_new HB.out 22) (K7.out.alloc _)).mono ?_
      rintro e w8 ⟨rfl, q8, rfl⟩
      go_wp2
      go_ret
      exact ⟨rfl, below_drewN (B7.alloc B7.size _) _⟩
    · have D : Hid (Done zs t rs zs') := placed_done HB.out HV.out H0.out HG.out.1 hP
      have hcmp : (L : Int) + 4 * ((t : Int) + 1 - (n : Int)) ≤ 8188 - (de : Int) - (li : Int) := by omega
      have K7b : Hid (Blk w7 g1 zs') := K7b'
      have K7 : Hid (Blk w7 w.heap.size zs) := K6.out.heap (r7.block _ K6.out.lt (by simp; omega))
      have B7 : Below w.heap.size w w7 := B6.grown r7 B6.size (fun k hk => by simp at hk; omega)
      have hzl' : zs'.length = 8192 := D.out.blk.len
      clear K7b' r7 B6 K6 K6b hP hle
      obtain ⟨t1, g1h⟩ : ∃ t1, w7.heap[g1]? = some (.cells (cellsOf zs') t1 (0, 0)) := K7b.out.2
      have Hg1 : Hid (w7.heap[g1]? = some (.cells (cellsOf zs') t1 (0, 0))) := g1h
      clear g1h
      go_wp2_with (first | (refine at_op (.load 30 (.tmp 11)) rfl ?_; refine wpList_load rfl 30 (.tmp 11) rfl Tryf.underlying30 info30 g1 rfl zs' hzl' t1 Hg1.out ?_) | (refine at_ops (.alloc 22) (.store 22 (.tmp 13) (.tmp 64)) rfl rfl ?_; refine wpList_new rfl rfl 22 rfl (.tmp 13) (.tmp 64) rfl made22 zs' hzl' rfl rfl ?_))
      have K8 : Hid (Blk (w7.alloc (.cells (cellsOf zs') 22)) w.heap.size zs) := K7.out.alloc _
      have K8b : Hid (Blk (w7.alloc (.cells (cellsOf zs') 22)) g1 zs') := K7b.out.alloc _
      have K8c : Hid (Blk (w7.alloc (.cells (cellsOf zs') 22)) w7.heap.size zs') := blk_new D.out.blk 22
      have B8 : Below w.heap.size w (w7.alloc (.cells (cellsOf zs') 22)) := B7.alloc B7.size _
      have hg2 : w.heap.size ≤ w7.heap.size := B7.size
      generalize w7.alloc (.cells (cellsOf zs') 22) = w8 at *
      generalize w7.heap.size = g2 at *
      clear K7 K7b B7 Hg1
      refine (valid6 g2 zs' w8 K8c.out).mono ?_
      rintro e w9 ⟨⟨b, rfl, hb⟩, B9'⟩
      obtain rfl : b = true := hb.2 D.out.valid
      have K9 : Hid (Blk w9 w.heap.size zs) := K8.out.below B9'
      have K9b : Hid (Blk w9 g1 zs') := K8b.out.below B9'
      have K9c : Hid (Blk w9 g2 zs') := K8c.out.below B9'
      have B9 := B8.trans (B9'.mono B8.size)
      clear hb K8 K8b K8c B8 B9'
      go_wp2_with fail
      refine (hdr12 w.heap.size g2 zs zs' w9 HD8.out D.out.hdr K9.out K9c.out).mono ?_
      rintro e wa ⟨rfl, q1, rfl⟩
      go_wp2_with fail
      refine (zu7 g2 16 16 zs' _ rfl (by omega) (K9c.out.drewN _)).mono ?_
      rintro e wa ⟨rfl, q2, rfl⟩
      have HR' : Hid ((u16 zs' 16 : Int) = ((t : Int) + 1)) := by
        have := D.out.rows
        rw [HNR.out] at this
        have e : u16 zs' 16 = nRows zs' := rfl
        unfold Hid
        omega
      rw [HR'.out]
      have HF' : Hid ((rowSp zs' : Int) - (ent zs' (nRows zs') : Int) + (u16 zs' 28 : Nat) = 8188 - (de : Int) - (li : Int) - ((L : Int) + 4 * ((t : Int) + 1 - (n : Int)))) := by
        have := D.out.free
        rw [HLL.out, HNd.out, HFr.out] at this
        unfold freeOf at this
        unfold Hid
        omega
      go_wp2_with fail
      refine (free13 g1 zs' _ (K9b.out.drewN _)).mono ?_
      rintro e wb ⟨rfl, Bb'⟩
      rw [HF'.out]
      have Ka : Hid (Blk wb w.heap.size zs) := (K9.out.drewN _).below Bb'
      have Kc : Hid (Blk wb g2 zs') := (K9c.out.drewN _).below Bb'
      have Bb : Below w.heap.size w wb := (below_drewN B9 _).trans (Bb'.mono (below_drewN B9 _).size)
      clear K9 K9b K9c B9 Bb'
      go_wp2_with fail
      refine (dir14 g2 zs' wb Kc.out).mono ?_
      rintro e wc ⟨rfl, q3, rfl⟩
      have Kx : Hid (Blk (wb.drewN q3) w.heap.size zs) := Ka.out.drewN _
      have Ky : Hid (Blk (wb.drewN q3) g2 zs') := Kc.out.drewN _
      have BV : Below w.heap.size w (wb.drewN q3) := below_drewN Bb _
      generalize wb.drewN q3 = V at *
      clear Ka Kc Bb HF'
      have HRw : Hid (RowIs V g2 ra rs) := HG.out.row BV hg2
      have hd0 : ent zs' 0 = dirS zs' := rfl
      have HE : Hid (∀ i, i < (t + 1) → ent zs' i + 4 ≤ 8188) := by
        intro i hi
        have h1 := D.out.valid.dir
        have h2 := D.out.valid.top
        have h3 : nRows zs' = (t + 1) := by have := HR'.out; have e : u16 zs' 16 = nRows zs' := rfl; omega
        rw [h3] at h1
        unfold ent at *
        omega
      have HEx : Hid (∀ i, ent zs' i = ent zs i) := D.out.ent
      have HEd : Hid (∀ i, ent zs' i = dirS zs' + 4 * i) := fun i => rfl
      have hd1 : dirS zs' ≤ 8188 := by have := HE.out t (by omega); have := HEd.out t; omega
      have HO : Hid (offOf zs' t ≠ 0) := D.out.off
      have hOf : offOf zs' t + L ≤ 8188 := by
        have h3 : nRows zs' = (t + 1) := by have := HR'.out; have e : u16 zs' 16 = nRows zs' := rfl; omega
        have h1 := (D.out.valid.upto.fits t (by rw [h3]; omega) HO.out).2
        have h2 : lenOf zs' t = L := by
          unfold lenOf
          have := D.out.short
          rw [D.out.raw, HLL.out]
          rw [HLL.out] at this
          omega
        omega
      have HW : Hid (rawOf zs' t = L) := D.out.raw.trans HLL.out
      clear hd0 HR'
      have HOf : Hid (offOf zs' t + L ≤ 8188) := hOf
      have hLI : (L : Int) ≤ 524288 := by omega
      have htI : (t : Int) ≤ 65536 := by omega
      have hnI : (n : Int) ≤ 2047 := by have := HN.out; omega
      have hdI : (dirS zs' : Int) ≤ 8188 := by omega
      generalize hdd : dirS zs' = d at *
      clear hdd hOf hL ht l16 hd1 hlv hzl hzl' htop hdir hcmp hw5 hg2 hs0 hs1
      go_wp2
      go_loopw [15] (fun ii wr => ∃ k nq : Nat, k ≤ (t + 1) ∧ ii = .int .i64 k ∧ wr = V.drewN nq) (fun ii _ => (t + 1) - (intOf ii).toNat)
      case atStart => exact ⟨0, 0, Nat.zero_le _, rfl, rfl⟩
      case round =>
        obtain ⟨k, nq, hk, rfl, rfl⟩ := hrel
        by_cases hkl : k < (t + 1)
        · have hkI : (k : Int) < ((t : Int) + 1) := by omega
          have He : Hid (ent zs' k + 4 ≤ 8188) := HE.out k hkl
          have Hed : Hid (ent zs' k = d + 4 * k) := HEd.out k
          have bd : (d : Int) + 4 * (k : Int) ≤ 8188 := by have := He.out; have := Hed.out; omega
          by_cases hkt : k = t
          · subst hkt
            have hOk : Hid (offOf zs' k + L ≤ 8188) := HOf.out
            have HOk : Hid (offOf zs' k ≠ 0) := HO.out
            have HWk : Hid (rawOf zs' k = L) := HW.out
            have HRk : Hid (∀ j, j < L → zs'.getD (offOf zs' k + j) 0 = rs.getD j 0) := by
              intro j hj
              exact D.out.row j (by rw [HLL.out]; exact hj)
            go_wp2_with fail
            refine (zu7 g2 ((d : Int) + 4 * (k : Int)) (ent zs' k) zs' _ (by have := Hed.out; omega) (by have := He.out; omega) (Ky.out.drewN _)).mono ?_
            rintro e wd ⟨rfl, q4, rfl⟩
            rw [show Qxb6612825aFmt.u16 zs' (ent zs' k) = offOf zs' k from rfl]
            have hoi : ((offOf zs' k : Int) == 0) = false := by have := HOk.out; simp; omega
            go_wp2_with fail
            refine (zu7 g2 ((d : Int) + 4 * (k : Int) + 2) (ent zs' k + 2) zs' _ (by have := Hed.out; omega) (by have := He.out; omega) (Ky.out.drewN _)).mono ?_
            rintro e wd ⟨rfl, q5, rfl⟩
            rw [show Qxb6612825aFmt.u16 zs' (ent zs' k + 2) = rawOf zs' k from rfl, HWk.out]
            generalize offOf zs' k = of at *
            have hofI : (of : Int) ≤ 8188 := by have := hOk.out; omega
            go_wp2
            go_loopw [18] (fun jj wr => ∃ j m : Nat, j ≤ L ∧ jj = .int .i64 j ∧ wr = V.drewN m) (fun jj _ => L - (intOf jj).toNat)
            case atStart => exact ⟨0, _, Nat.zero_le _, rfl, rfl⟩
            case round =>
              obtain ⟨j, m, hj, rfl, rfl⟩ := hrel
              by_cases hjl : j < L
              · have hjI : (j : Int) < (L : Int) := by omega
                rcases HRw.out.2 with h | ⟨rb, ro, hra, _, _, hc⟩
                · exfalso
                  have := HLL.out
                  rw [h] at this
                  simp at this
                  omega
                subst hra
                have c1 : V.cell? ⟨g2, of + j, none⟩ = some (.int .u8 (rs.getD j 0)) := by rw [Ky.out.cell (of + j) (by have := hOk.out; omega), HRk.out j hjl]
                have c2 : V.cell? ⟨rb, ro + j, none⟩ = some (.int .u8 (rs.getD j 0)) := hc j (by rw [HLL.out]; exact hjl)
                have b1 : (of : Int) + (j : Int) < 8192 := by have := hOk.out; omega
                clear hc HB HG HV H0 HNd HFr HD8 HDir HN HNR HDE HLI HLL D HE HEx HEd HO HOf HW Kx Ky BV HRk HOk HWk hOk HRw He Hed
                generalize rs.getD j 0 = x at c1 c2
                go_wp2
                go_quiet (fail)
                go_wp2
                go_roundw
                case rel => exact ⟨j + 1, _, by omega, by go_num, rfl⟩
                case measure => simp [intOf] <;> omega
              · have hjI : (L : Int) ≤ (j : Int) := by omega
                go_wp2
                go_roundw
                case rel => exact ⟨k + 1, _, by omega, by go_num, rfl⟩
                case measure => simp [intOf] <;> omega
          · have hkt' : ((k : Int) == (t : Int)) = false := by simp; omega
            by_cases hkn : k < n
            · have hknI : (k : Int) < (n : Int) := by omega
              have hS := slot15 w.heap.size g2 (k : Int) k zs zs' (V.drewN nq) rfl (by rw [← HEx.out]; exact He.out) He.out (fun h => (HV.out.upto.fits k (by rw [HNR.out]; exact hkn) h).2) (fun h => (D.out.valid.upto.fits k (by have := D.out.rows; rw [HNR.out] at this; omega) h).2) (D.out.old k (by rw [HNR.out]; exact hkn) hkt) (Kx.out.drewN _) (Ky.out.drewN _)
              go_wp2_with fail
              refine hS.mono ?_
              rintro e wd ⟨rfl, q4, rfl⟩
              go_wp2
              go_roundw
              case rel => exact ⟨k + 1, _, by omega, by go_num, rfl⟩
              case measure => simp [intOf] <;> omega
            · have hknI : (n : Int) ≤ (k : Int) := by omega
              go_wp2_with fail
              refine (empty8 g2 (k : Int) k zs' _ rfl (by have := He.out; omega) (Ky.out.drewN _)).mono ?_
              rintro e wd ⟨rfl, q4, rfl⟩
              rw [show emptyB zs' k = true from decide_eq_true (D.out.new k (by rw [HNR.out]; omega) (by omega))]
              go_wp2
              go_roundw
              case rel => exact ⟨k + 1, _, by omega, by go_num, rfl⟩
              case measure => simp [intOf] <;> omega
        · have hkI : ((t : Int) + 1) ≤ (k : Int) := by omega
          go_wp2
          go_ret
          exact ⟨rfl, below_drewN BV _⟩
end Go.Proofs.Qxb6612825aFmt
