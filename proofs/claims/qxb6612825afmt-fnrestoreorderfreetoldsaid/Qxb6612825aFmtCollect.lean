/-
  compact, WALKED: its first half: the rows are collected.
-/
import Derived.Test.Qxb6612825aFmtSort
import Derived.Test.Qxb6612825aFmtNone
import Derived.Test.Qxb6612825aFmtPlace
import Derived.Deep.RegionHeld3
namespace Go.Proofs.Qxb6612825aFmt
open Go.RowKit Go.Proofs.Qxb6612825aFmt.Big
set_option linter.unusedVariables false

theorem info51 : (Tryf.prog.info? 51).map (fun i => (i.zero, i.size, i.bytes)) = some (some (.agg #[.int .i64 0, .int .i64 0, .int .i64 0]), 3, 24) := by kernel_rfl

theorem rowsOf_length_le (zs : List Int) (n : Nat) : (rowsOf zs n).length ≤ n := by
  induction n with
  | zero => exact Nat.le_refl _
  | succ n ih =>
    unfold rowsOf
    split
    · omega
    · simp; exact ih
/-- The rows' cells. -/
def plCells (ds : List Pl) : List Value := ds.flatMap encPl
theorem plCells_snoc (ds : List Pl) (x : Pl) : plCells (ds ++ [x]) = plCells ds ++ encPl x := by simp [plCells]
theorem plCells_length (ds : List Pl) : (plCells ds).length = ds.length * 3 := by
  induction ds with
  | nil => rfl
  | cons x ds ih => simp [plCells, encPl] at ih ⊢; omega
theorem plCells_get (ds : List Pl) : ∀ j, j < ds.length → ∀ t, t < 3 → (plCells ds)[j * 3 + t]? = some ((encPl (ds.getD j default)).getD t undef) := by
  induction ds with
  | nil => intro j hj; simp at hj
  | cons x ds ih =>
    intro j hj t ht
    have e : plCells (x :: ds) = encPl x ++ plCells ds := by simp [plCells]
    rw [e]
    match j with
    | 0 =>
      rw [List.getElem?_append_left (by simp [encPl]; omega)]
      have : t = 0 ∨ t = 1 ∨ t = 2 := by omega
      rcases this with rfl | rfl | rfl <;> rfl
    | j + 1 =>
      rw [List.getElem?_append_right (by simp [encPl]; omega)]
      have e2 : (j + 1) * 3 + t - (encPl x).length = j * 3 + t := by simp [encPl]; omega
      rw [e2, ih j (by simpa using hj) t ht]
      simp
theorem news_pl (w : World) (x : Pl) : ∀ j u, (encPl x)[j]? = some u → (w.alloc (.cells #[.int .i64 (x.1 : Int), .int .i64 (x.2.1 : Int), .int .i64 (x.2.2 : Int)] 51)).cell? ((⟨w.heap.size, 0, none⟩ : Addr).add j) = some u := by
  intro j u hj
  rw [Go.WideShapes.add_plain, Nat.zero_add]
  match j, hj with
  | 0, hj => simp [encPl] at hj; subst hj; simp [go_sem]
  | 1, hj => simp [encPl] at hj; subst hj; simp [go_sem]
  | 2, hj => simp [encPl] at hj; subst hj; simp [go_sem]
  | n + 3, hj => simp [encPl] at hj
theorem one_pl (x : Pl) : ∀ u ∈ encPl x, u.oneCell' = true := by
  intro u hu
  simp [encPl] at hu
  rcases hu with rfl | rfl | rfl <;> rfl

/-- 'b[o:o+n]' of a block. -/
theorem slice30 (g o n : Nat) (W : World) (h : o + n < 8192) : (Instr.sliceAt 30 (.pointer (some ⟨g, 0, none⟩)) (some (.int .i64 (o : Int))) (some (.int .i64 ((o : Int) + (n : Int)))) none).run Tryf.prog W = .ok (.slice (some ⟨g, o, none⟩) n (8192 - o)) W := by
  have ha : Tryf.prog.arrayLen 30 = 8192 := by kernel_rfl
  have he : Tryf.prog.elem 30 = 5 := by kernel_rfl
  have hu : Tryf.prog.underlying 30 = some (.array (Tryf.prog.arrayLen 30) (Tryf.prog.elem 30)) := by rw [ha, he]; exact Tryf.underlying30
  rw [run_sliceAt_array_lh W 30 ⟨g, 0, none⟩ hu .i64 .i64 (o : Int) ((o : Int) + (n : Int)) (by omega) (by omega) (by rw [ha]; omega), he, ha]
  have h1 : ((o : Int)).toNat = o := by omega
  have h2 : ((o : Int) + (n : Int)).toNat = o + n := by omega
  have h3 : ¬ 8192 = o := by omega
  have h4 : o + n - o = n := by omega
  rw [h1, h2]
  simp only [Tryf.sizeOf5, Result.andThen_ok, slicedAt, if_neg h3, Nat.mul_one, Go.WideShapes.add_plain, Nat.zero_add, h4]

theorem cell_grown {w w' : World} {g : Nat} (h : Hid (w.grownBy w' (some g))) {rb i : Nat} {v : Value} (hc : w.cell? ⟨rb, i, none⟩ = some v) (hne : rb ≠ g) : w'.cell? ⟨rb, i, none⟩ = some v := h.out.cell hc (by simpa using hne)

theorem below_then_grown {w a b : World} {g : Nat} (h : Below w.heap.size w a) (k : a.grownBy b (some g)) : w.grownBy b (some g) := grown_trans (below_grown h) k

theorem own_ge {w : World} {base e size : Nat} {v : Value} {n : Nat} {xs : List Value} (h : w.ownsRow base e size v n xs) {k : Nat} (hk : v.ownBlock = some k) : base ≤ k := by
  rcases h.2 with ⟨rfl, _⟩ | ⟨g, cap, cur, rfl, hb, _⟩
  · simp [Value.ownBlock] at hk
  · simp [Value.ownBlock] at hk
    omega

/-- The rows collected, some: where they lie. -/
theorem own_slice {w : World} {base : Nat} {v : Value} {ds : List Pl} (h : w.ownsRow base 51 3 v ds.length (plCells ds)) (hne : ds ≠ []) :
    ∃ b cap, v = .slice (some ⟨b, 0, none⟩) ds.length cap ∧ base ≤ b ∧ b < w.heap.size ∧ PlRow w b ds := by
  have h' := h
  rcases h.2 with ⟨_, h0⟩ | ⟨b, cap, cur, rfl, hb, hg, _⟩
  · exact absurd (List.eq_nil_of_length_eq_zero h0) hne
  · refine ⟨b, cap, rfl, hb, lt_of_block hg, fun j hj t ht => ⟨?_, h'.frozenAt _⟩⟩
    rw [h'.cellAt _ (by omega), plCells_get ds j hj t ht]

set_option maxRecDepth 100000 in
set_option maxHeartbeats 2000000 in
theorem compact22 (g : Nat) (zs : List Int) (w : World) (V : Valid zs) (H : Blk w g zs) :
    Calls Tryf.prog 22 #[.pointer (some ⟨g, 0, none⟩)] w fun e w' => e = .returned (.tuple #[]) ∧ ∃ zs', Compacted zs zs' ∧ Blk w' g zs' ∧ w.grownBy w' (some g) := by
  have l16 : nRows zs < 65536 := H.1.u16_lt 16
  have hR := rows17 g zs w H
  have HV : Hid (Valid zs) := V
  have HH : Hid (Blk w g zs) := H
  have hg : g < w.heap.size := H.lt
  obtain ⟨i0, hi, hz0, hz1, hz2⟩ := info_parts info51
  clear V H
  go_enter Tryf.func22, Tryf.ntmps22
  go_wp2_with fail
  refine hR.mono ?_
  rintro e w1 ⟨rfl, B1⟩
  clear hR
  go_wp2
  go_loopw [2, 12] (fun v ii wr => ∃ i : Nat, i ≤ nRows zs ∧ ii = .int .i64 i ∧ wr.ownsRow w.heap.size 51 3 v (rowsOf zs i).length (plCells (rowsOf zs i)) ∧ Below w.heap.size w wr ∧ (rowsOf zs i = [] → v = .slice none 0 0)) (fun _ ii _ => nRows zs - (intOf ii).toNat)
  case atStart => exact ⟨0, Nat.zero_le _, rfl, World.ownsRow_nil _ _ _ _, B1, fun _ => rfl⟩
  case round =>
    clear B1
    obtain ⟨i, hil, rfl, hown, BX, hnil⟩ := hrel
    by_cases hlt : i < nRows zs
    · have HB : Hid (Blk wr g zs) := HH.out.below BX
      have he : ent zs i + 4 ≤ 8188 := by have := HV.out.dir; have := HV.out.top; unfold ent at *; omega
      have hE := rowEntry19 g (i : Int) i zs wr rfl (by omega) (by omega) HB.out
      have hlo : offOf zs i < 65536 := HB.out.1.u16_lt _
      clear he
      by_cases c : offOf zs i = 0
      · have c' : ((offOf zs i : Int) != 0) = false := by simp; omega
        have HRO : Hid (rowsOf zs (i + 1) = rowsOf zs i) := by show (if _ then _ else _) = _; rw [if_pos c]
        clear c
        go_wp2_with fail
        refine hE.mono ?_
        rintro e w2 ⟨rfl, B2⟩
        have hown2 : w2.ownsRow w.heap.size 51 3 u2 (rowsOf zs i).length (plCells (rowsOf zs i)) := hown.kept (below_grown B2 (r := none)) (by cases hv : u2.ownBlock <;> simp)
        have BX2 : Below w.heap.size w w2 := BX.trans (B2.mono BX.size)
        clear B2
        go_wp2
        go_roundw
        case rel => exact ⟨i + 1, by omega, by go_num, by rw [HRO.out]; exact hown2, BX2, by rw [HRO.out]; exact hnil⟩
        case measure => simp [intOf]; omega
      · have c' : ((offOf zs i : Int) != 0) = true := by simp; omega
        have HRO : Hid (rowsOf zs (i + 1) = rowsOf zs i ++ [(i, offOf zs i, lenOf zs i)]) := by show (if _ then _ else _) = _; rw [if_neg c]
        have hrl := rowsOf_length_le zs i
        clear c
        go_wp2_with fail
        refine hE.mono ?_
        rintro e w2 ⟨rfl, B2⟩
        have hown2 : w2.ownsRow w.heap.size 51 3 u2 (rowsOf zs i).length (plCells (rowsOf zs i)) := hown.kept (below_grown B2 (r := none)) (by cases hv : u2.ownBlock <;> simp)
        have BX2 : Below w.heap.size w w2 := BX.trans (B2.mono BX.size)
        clear B2 hown
        generalize hoo : offOf zs i = oo at *
        generalize hll : lenOf zs i = ll at *
        have HOO : Hid (offOf zs i = oo) := hoo
        have HLL : Hid (lenOf zs i = ll) := hll
        clear hoo hll
        go_wp2_with (at_builtin; refine wpList_append_own _ rfl (.tmp 24) (.tmp 29) 49 rfl w.heap.size 51 i0 (.agg #[.int .i64 0, .int .i64 0, .int .i64 0]) 3 24 Tryf.underlying49 hi hz0 hz1 hz2 rfl (by decide) u2 _ _ rfl (hown2.alloc _) ⟨w2.heap.size, 0, none⟩ 1 1 (encPl (i, oo, ll)) rfl rfl (news_pl _ _) (one_pl _) (by unfold maxLen; omega) (by omega) (by have := BX2.size; simp; omega) ?_; intro v3 w3 hown3 hgr3 hnn3)
        rw [← plCells_snoc] at hown3
        have BX3 : Below w.heap.size w w3 := (BX2.alloc BX2.size _).grown hgr3 (by have := BX2.size; simp; omega) (fun j hj => own_ge hown2 hj)
        have hl3 : (rowsOf zs (i + 1)).length = (rowsOf zs i).length + 1 := by rw [HRO.out]; simp
        have HL3 : Hid ((rowsOf zs (i + 1)).length = (rowsOf zs i).length + 1) := hl3
        clear hl3 hgr3 hown2
        go_wp2
        go_roundw
        case rel => exact ⟨i + 1, by omega, by go_num, by rw [HL3.out, HRO.out]; exact hown3, BX3, by rw [HRO.out]; intro h; simp at h⟩
        case measure => simp [intOf]; omega
    · obtain rfl : i = nRows zs := by omega
      have hrl := rowsOf_length_le zs (nRows zs)
      by_cases hem : rowsOf zs (nRows zs) = []
      · have hv := hnil hem
        subst hv
        have HO : Hid (Order zs []) := ⟨by rw [hem], fun i j _ h => absurd h (Nat.not_lt_zero _)⟩
        have HB : Hid (Blk wr g zs) := HH.out.below BX
        clear hown hnil hem
        go_wp2_with fail
        refine (none28 _ _).mono ?_
        rintro e w4 ⟨rfl, hw4⟩
        have hw4 := hw4.symm
        subst hw4
        go_wp2
        refine wp_loop_rounds 1 ?_
        rw [rounds_succ]
        go_wp2_with fail
        refine (set24 g 18 18 8188 zs _ rfl (by omega) HB.out).mono ?_
        rintro e w5 ⟨rfl, H5, r5⟩
        go_wp2_with fail
        refine (set24 g 28 28 0 _ _ rfl (by omega) H5).mono ?_
        rintro e w6 ⟨rfl, H6, r6⟩
        go_wp2
        go_end0
        exact ⟨rfl, _, ⟨[], HO.out, rfl⟩, H6, grown_trans (grown_trans (below_grown BX) r5) r6⟩
      · obtain ⟨b, cap, hbv, hbb, hbl, hbr⟩ := own_slice hown hem
        subst hbv
        have hbg : b ≠ g := by omega
        clear hnil hem hown
        go_wp2_with fail
        refine (sort28 b cap _ _ hbr hbl (by omega)).mono ?_
        rintro e W ⟨rfl, ds, hperm, hdesc, hPl, hgW⟩
        have HO : Hid (Order zs ds) := ⟨hperm, hdesc⟩
        have hlen : ds.length = (rowsOf zs (nRows zs)).length := hperm.length_eq
        have HBW : Hid (Blk W g zs) := (HH.out.below BX).heap (hgW.block g (by have := BX.size; omega) (by simp; omega))
        have BW : Below w.heap.size w W := BX.grown hgW BX.size (fun k hk => by simp at hk; omega)
        have hbW : b < W.heap.size := Nat.lt_of_lt_of_le hbl hgW.size
        have HPl : Hid (PlRow W b ds) := hPl
        clear hperm hdesc hgW hbr BX hPl
        rw [← hlen]
        have hdl : ds.length ≤ nRows zs := by omega
        clear hlen hrl
        go_wp2
        go_loopw [7, 36] (fun en idx wk => ∃ k : Nat, k ≤ ds.length ∧ idx = .int .i64 k ∧ en = .int .i64 (endOf ds k : Nat) ∧ Blk wk g (moved zs ds k) ∧ W.grownBy wk (some g)) (fun _ idx _ => ds.length - (intOf idx).toNat)
        case atStart => exact ⟨0, Nat.zero_le _, rfl, rfl, HBW.out, World.grownBy.refl _ _⟩
        case round =>
          obtain ⟨k, hk, rfl, rfl, hBk, hgk⟩ := hrel
          by_cases hkl : k < ds.length
          · have h1 := HO.out.at HV.out hkl
            have h2 := HO.out.end_eq HV.out hkl
            have hb1 : wr.heap[b]? = W.heap[b]? := hgk.block b hbW (by simp; omega)
            have c0 : wr.cell? ⟨b, k * 3, none⟩ = some (.int .i64 ((ds.getD k default).1 : Int)) := by
              rw [World.cell?_of_block (a := ⟨b, k * 3, none⟩) hb1]; exact (HPl.out k hkl 0 (by omega)).1
            have c1 : wr.cell? ⟨b, k * 3 + 1, none⟩ = some (.int .i64 ((ds.getD k default).2.1 : Int)) := by
              rw [World.cell?_of_block (a := ⟨b, k * 3 + 1, none⟩) hb1]; exact (HPl.out k hkl 1 (by omega)).1
            have c2 : wr.cell? ⟨b, k * 3 + 2, none⟩ = some (.int .i64 ((ds.getD k default).2.2 : Int)) := by
              rw [World.cell?_of_block (a := ⟨b, k * 3 + 2, none⟩) hb1]; exact (HPl.out k hkl 2 (by omega)).1
            clear hb1
            have HBk : Hid (Blk wr g (moved zs ds k)) := hBk
            have Hgk : Hid (W.grownBy wr (some g)) := hgk
            clear hBk hgk
            have hbwr : b < wr.heap.size := block_lt_of_cell c0
            have l8 : rowSp zs ≤ 8188 := HV.out.top
            have HM : Hid (moved zs ds (k + 1) = put16 (blit (moved zs ds k) (endOf ds (k + 1)) (cut (moved zs ds k) (ds.getD k default).2.1 (ds.getD k default).2.2)) (ent zs (ds.getD k default).1) (endOf ds (k + 1) : Nat)) := rfl
            have HI : Hid (IsBlk (moved zs ds k)) := HBk.out.1
            have HEN : Hid (∀ i, ent (moved zs ds k) i = ent zs i) := fun i => moved_ent HH.out.1 HO.out HV.out (by omega) i
            have HE1 : Hid (endOf ds (k + 1) = endOf ds k - (ds.getD k default).2.2) := by unfold Hid; omega
            generalize hsl : (ds.getD k default).1 = sl at *
            generalize hof : (ds.getD k default).2.1 = of at *
            generalize hle : (ds.getD k default).2.2 = le at *
            generalize hee : endOf ds (k + 1) = e1 at *
            generalize hef : endOf ds k = e0 at *
            have HEE : Hid (endOf ds (k + 1) = e1) := hee
            clear hsl hof hle hee hef
            have q1 : (e0 : Int) - (le : Int) = (e1 : Int) := by omega
            go_wp2
            have HBX : Hid (Blk (wr.alloc (.cells #[.int .i64 (sl : Int), .int .i64 (of : Int), .int .i64 (le : Int)] 51)) g (moved zs ds k)) := HBk.out.below ((Below.refl _ _).alloc (Nat.le_refl _) _)
            have HgX : Hid (W.grownBy (wr.alloc (.cells #[.int .i64 (sl : Int), .int .i64 (of : Int), .int .i64 (le : Int)] 51)) (some g)) := grown_trans Hgk.out (World.grownBy_alloc _ _ _)
            have x0 : (wr.alloc (.cells #[.int .i64 (sl : Int), .int .i64 (of : Int), .int .i64 (le : Int)] 51)).cell? ⟨wr.heap.size, 0, none⟩ = some (.int .i64 (sl : Int)) := by simp [go_sem]
            have x1 : (wr.alloc (.cells #[.int .i64 (sl : Int), .int .i64 (of : Int), .int .i64 (le : Int)] 51)).cell? ⟨wr.heap.size, 1, none⟩ = some (.int .i64 (of : Int)) := by simp [go_sem]
            have x2 : (wr.alloc (.cells #[.int .i64 (sl : Int), .int .i64 (of : Int), .int .i64 (le : Int)] 51)).cell? ⟨wr.heap.size, 2, none⟩ = some (.int .i64 (le : Int)) := by simp [go_sem]
            have hgr : g < wr.heap.size := HBk.out.lt
            generalize wr.alloc (.cells #[.int .i64 (sl : Int), .int .i64 (of : Int), .int .i64 (le : Int)] 51) = X at *
            generalize wr.heap.size = rb at *
            clear c0 c1 c2 Hgk HBk
            have hrbg : rb ≠ g := by omega
            have p1 : (e1 : Int) + (le : Int) ≤ 8188 := by omega
            have p2 : (of : Int) + (le : Int) ≤ 8188 := by omega
            have p3 : ¬ 8192 = e1 := by omega
            have p4 : ¬ 8192 = of := by omega
            have p5 : (e1 : Int) ≤ 8188 := by omega
            have p6 : (of : Int) ≤ 8188 := by omega
            have hcl : (cut (moved zs ds k) of le).length = le := cut_length (by rw [HI.out.len]; omega)
            have HSR : Hid (∀ j, j < (cut (moved zs ds k) of le).length → X.cell? ((⟨g, of, none⟩ : Addr).add j) = some (.int .u8 ((cut (moved zs ds k) of le).getD j 0))) := by
              intro j hj
              rw [hcl] at hj
              rw [Go.WideShapes.add_plain, HBX.out.cell (of + j) (by omega), cut_getD hj]
            have s1 : ∀ W, (Instr.sliceAt 30 (.pointer (some ⟨g, 0, none⟩)) (some (.int .i64 (e1 : Int))) (some (.int .i64 ((e1 : Int) + (le : Int)))) none).run Tryf.prog W = .ok (.slice (some ⟨g, e1, none⟩) le (8192 - e1)) W := fun W => slice30 g e1 le W (by omega)
            have s2 : ∀ W, (Instr.sliceAt 30 (.pointer (some ⟨g, 0, none⟩)) (some (.int .i64 (of : Int))) (some (.int .i64 ((of : Int) + (le : Int)))) none).run Tryf.prog W = .ok (.slice (some ⟨g, of, none⟩) le (8192 - of)) W := fun W => slice30 g of le W (by omega)
            have wr1 : IntKind.i64.wrap ((e1 : Int) + (le : Int)) = (e1 : Int) + (le : Int) := by rw [IntKind.wrap_i64]; omega
            have wr2 : IntKind.i64.wrap ((of : Int) + (le : Int)) = (of : Int) + (le : Int) := by rw [IntKind.wrap_i64]; omega
            go_region_held3 (fun w' => w'.cell? ⟨rb, 1, none⟩ = some (.int .i64 (of : Int)) ∧ w'.cell? ⟨rb, 2, none⟩ = some (.int .i64 (le : Int))) (go_keep) ((refine step_copy_blk rfl (.tmp 51) (.tmp 61) rfl g e1 le (8192 - e1) rfl ⟨g, of, none⟩ le (8192 - of) rfl (moved zs ds k) (HBX.out.heap rfl) (cut (moved zs ds k) of le) (wf_cut HI.out.wf _ _) (by rw [hcl]; simp) (by exact HSR.out) (by rw [hcl]; omega) ?_; intro w5 hB5 hg5; have k0 := cell_grown hg5 (rb := rb) (i := 0) (by exact x0) hrbg; have k1 := cell_grown hg5 (rb := rb) (i := 1) (by exact x1) hrbg; have k2 := cell_grown hg5 (rb := rb) (i := 2) (by exact x2) hrbg))
            have HEN5 : Hid (ent (blit (moved zs ds k) e1 (cut (moved zs ds k) of le)) sl = ent zs sl) := by
              unfold Hid
              rw [← HEN.out sl]
              unfold ent dirS
              rw [u16_blit_out (by rw [hcl, HI.out.len]; omega) (by omega)]
            have hslr : sl < 65536 := by omega
            have hgw5 : Hid (W.grownBy w5 (some g)) := grown_trans HgX.out (grown_trans (grown_drew _ _) hg5.out)
            clear x0 x1 x2 s1 s2 HSR HBX HgX hg5
            go_wp2_with fail
            refine (entry27 g _ sl _ _ rfl (by omega) hB5.out).mono ?_
            rintro e w6 ⟨rfl, B6⟩
            rw [HEN5.out]
            have hent : ent zs sl + 4 ≤ 8188 := by omega
            have H6 : Hid (Blk w6 g (blit (moved zs ds k) e1 (cut (moved zs ds k) of le))) := hB5.out.below B6
            have G6 : Hid (W.grownBy w6 (some g)) := grown_trans hgw5.out (below_grown B6)
            clear hB5 B6 hgw5 k0 k1 k2
            generalize ent zs sl = en at *
            go_wp2_with fail
            refine (set24 g (en : Int) en (e1 : Int) _ _ rfl (by omega) H6.out).mono ?_
            rintro e w7 ⟨rfl, H7, r7⟩
            rw [← HM.out] at H7
            have HH7 : Hid (Blk w7 g (moved zs ds (k + 1))) := H7
            have G7 : Hid (W.grownBy w7 (some g)) := grown_trans G6.out r7
            clear H7 r7
            go_wp2
            go_roundw
            case rel => exact ⟨k + 1, by omega, by go_num, by rw [HEE.out], HH7.out, G7.out⟩
            case measure => simp [intOf]; omega
          · obtain rfl : k = ds.length := by omega
            have HBk : Hid (Blk wr g (moved zs ds ds.length)) := hBk
            have Hgk : Hid (W.grownBy wr (some g)) := hgk
            clear hBk hgk
            go_wp2_with fail
            refine (set24 g 18 18 _ _ _ rfl (by omega) HBk.out).mono ?_
            rintro e w5 ⟨rfl, H5, r5⟩
            go_wp2_with fail
            refine (set24 g 28 28 0 _ _ rfl (by omega) H5).mono ?_
            rintro e w6 ⟨rfl, H6, r6⟩
            go_wp2
            go_end0
            exact ⟨rfl, _, ⟨ds, HO.out, rfl⟩, H6, below_then_grown BW (grown_trans Hgk.out (grown_trans r5 r6))⟩
end Go.Proofs.Qxb6612825aFmt
