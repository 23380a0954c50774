/-
  rowEntry, zzU16, zzDirStart, zzSlotEmpty; the writers setU16, setEntry.
-/
import Derived.Test.Qxb6612825aFmtBase
import Derived.Test.Qxb6612825aFmtBits
import Derived.Test.Qxb6612825aFmtMoved
namespace Go.Proofs.Qxb6612825aFmt
open Go.RowKit Go.Proofs.Qxb6612825aFmt.Big
set_option linter.unusedVariables false

/-- Is the mark set? -/
def delB (r : Nat) : Bool := decide (32768 ≤ r)

set_option maxHeartbeats 400000 in
/-- (*Block).rowEntry -/
theorem rowEntry19 (g : Nat) (slot : Int) (i : Nat) (zs : List Int) (w : World) (hs : slot = (i : Int)) (hi : i ≤ 70000) (he : ent zs i + 4 ≤ 8192) (H : Blk w g zs) :
    Calls Tryf.prog 19 #[.pointer (some ⟨g, 0, none⟩), .int .i64 slot] w fun e w' => e = .returned (.tuple #[.int .i64 (offOf zs i : Nat), .int .i64 (lenOf zs i : Nat), .bool (delB (rawOf zs i))]) ∧ Below w.heap.size w w' := by
  have hE := entry27 g slot i zs w hs hi H
  have hR := fun w' (hb : Below w.heap.size w w') => u18 g ((ent zs i : Int) + 2) (ent zs i + 2) zs w' (by omega) (by omega) (H.below hb)
  have hO := fun w' (hb : Below w.heap.size w w') => u18 g (ent zs i : Int) (ent zs i) zs w' rfl (by omega) (H.below hb)
  have hr : rawOf zs i < 65536 := H.1.u16_lt _
  have hAN : bits .andNot .i64 (rawOf zs i : Int) 32768 = (lenOf zs i : Int) := i64_andNot_top _ hr
  have hA : (bits .and .i64 (rawOf zs i : Int) 32768 != 0) = delB (rawOf zs i) := by
    rw [i64_and_top _ hr]
    unfold delB
    by_cases h : 32768 ≤ rawOf zs i <;> simp [h]
  change ∀ w', Below w.heap.size w w' → Calls Tryf.prog 18 _ w' fun e w'' => e = .returned (.int .i64 (rawOf zs i : Nat)) ∧ Below w'.heap.size w' w'' at hR
  change ∀ w', Below w.heap.size w w' → Calls Tryf.prog 18 _ w' fun e w'' => e = .returned (.int .i64 (offOf zs i : Nat)) ∧ Below w'.heap.size w' w'' at hO
  clear H
  subst hs
  generalize ent zs i = en at *
  generalize rawOf zs i = ra at *
  generalize offOf zs i = of at *
  generalize lenOf zs i = le at *
  go_enter Tryf.func19, Tryf.ntmps19
  go_wp2_with fail
  refine hE.mono ?_
  rintro e w1 ⟨rfl, b1⟩
  go_wp2_with fail
  refine (hR _ b1).mono ?_
  rintro e w2 ⟨rfl, b2⟩
  have b2' := b1.trans (b2.mono b1.size)
  go_wp2_with fail
  refine (hO _ b2').mono ?_
  rintro e w3 ⟨rfl, b3⟩
  go_wp2
  go_ret3
  exact ⟨rfl, b2'.trans (b3.mono b2'.size)⟩

set_option maxHeartbeats 400000 in
/-- zzU16 -/
theorem zu7 (g : Nat) (off : Int) (n : Nat) (zs : List Int) (w : World) (hn : off = (n : Int)) (hb : n + 2 ≤ 8192) (H : Blk w g zs) :
    Calls Tryf.prog 7 #[.pointer (some ⟨g, 0, none⟩), .int .i64 off] w fun e w' => e = .returned (.int .i64 (u16 zs n : Nat)) ∧ ∃ q, w' = w.drewN q := by
  subst hn
  have c0 := H.cell n (by omega)
  have c1 := H.cell (n + 1) (by omega)
  rw [← H.1.cast n] at c0
  rw [← H.1.cast (n + 1)] at c1
  have l0 := H.1.lt n
  have l1 := H.1.lt (n + 1)
  have hor : bits .or .i64 ((byteAt zs n : Int) * 256) (byteAt zs (n + 1) : Int) = ((u16 zs n : Nat) : Int) := by
    rw [i64_or_byte _ _ (by omega) (by omega) (by omega) (by omega) (by omega)]
    unfold u16
    omega
  clear H
  generalize u16 zs n = v at *
  generalize byteAt zs n = x at *
  generalize byteAt zs (n + 1) = y at *
  have h3 : (n : Int) < 8192 := by omega
  have h4 : (n : Int) + 1 < 8192 := by omega
  go_enter Tryf.func7, Tryf.ntmps7
  go_wp2
  go_quiet (fail)
  go_wp2
  go_ret
  exact ⟨rfl, _, rfl⟩

set_option maxHeartbeats 400000 in
/-- zzDirStart -/
theorem dir14 (g : Nat) (zs : List Int) (w : World) (H : Blk w g zs) :
    Calls Tryf.prog 14 #[.pointer (some ⟨g, 0, none⟩)] w fun e w' => e = .returned (.int .i64 (dirS zs : Nat)) ∧ ∃ q, w' = w.drewN q := by
  have hC := zu7 g 20 20 zs w rfl (by omega) H
  have hlt := H.1.u16_lt 20
  have HE : Hid (dirS zs = 52 + 24 * u16 zs 20) := rfl
  clear H
  generalize u16 zs 20 = v at *
  go_enter Tryf.func14, Tryf.ntmps14
  go_wp2_with (go_at_call 7; refine hC.mono ?_; rintro e w' ⟨rfl, q, rfl⟩)
  go_ret
  exact ⟨ret_int (by rw [HE.out]; omega), q, rfl⟩

theorem Blk.drewN {w : World} {g : Nat} {zs : List Int} (h : Blk w g zs) (q : Nat) : Blk (w.drewN q) g zs := h.heap rfl

/-- Is the slot's offset 0? -/
def emptyB (zs : List Int) (i : Nat) : Bool := decide (offOf zs i = 0)

set_option maxHeartbeats 400000 in
/-- zzSlotEmpty -/
theorem empty8 (g : Nat) (slot : Int) (i : Nat) (zs : List Int) (w : World) (hs : slot = (i : Int)) (he : ent zs i + 2 ≤ 8192) (H : Blk w g zs) :
    Calls Tryf.prog 8 #[.pointer (some ⟨g, 0, none⟩), .int .i64 slot] w fun e w' => e = .returned (.bool (emptyB zs i)) ∧ ∃ q, w' = w.drewN q := by
  subst hs
  have hD := dir14 g zs w H
  have hO := fun q => zu7 g ((dirS zs : Int) + 4 * (i : Int)) (ent zs i) zs (w.drewN q) (by unfold ent; omega) he (H.drewN q)
  have hl : ((u16 zs (ent zs i) : Int) == 0) = emptyB zs i := by
    unfold emptyB offOf
    by_cases h : u16 zs (ent zs i) = 0 <;> simp [h]
  have hb1 : dirS zs + 4 * i ≤ 8192 := by unfold ent at he; omega
  clear H he
  generalize u16 zs (ent zs i) = v at *
  generalize dirS zs = d at *
  go_enter Tryf.func8, Tryf.ntmps8
  go_wp2_with (first | (go_at_call 14; refine hD.mono ?_; rintro e w' ⟨rfl, q, rfl⟩) | (go_at_call 7; refine (hO _).mono ?_; rintro e w' ⟨rfl, q2, rfl⟩))
  go_ret
  exact ⟨rfl, _, rfl⟩

theorem set_cellsOf (zs : List Int) (i : Nat) (z : Int) : (cellsOf zs).setIfInBounds i (.int .u8 z) = cellsOf (zs.set i z) := by
  apply Array.ext'
  simp [cellsOf, List.map_set]
theorem byteCells16 (n : Nat) : Lib.byteCells (Lib.beBytes 2 n) = [Value.int .u8 ((n / 256 % 256 : Nat) : Int), Value.int .u8 ((n % 256 : Nat) : Int)] := by
  simp [Lib.byteCells, Lib.beBytes, Lib.leBytes]

theorem grown_trans {a b c : World} {r : Option Nat} (h : a.grownBy b r) (k : b.grownBy c r) : a.grownBy c r :=
  ⟨k.os.trans h.os, k.tape.trans h.tape, k.output.trans h.output, Nat.le_trans h.size k.size, fun i hi hr => (k.block i (Nat.lt_of_lt_of_le hi h.size) hr).trans (h.block i hi hr)⟩
theorem grown_setCell (w : World) (g i : Nat) (v : Value) : w.grownBy (w.setCell ⟨g, i, none⟩ v) (some g) :=
  ⟨rfl, rfl, rfl, by simp [World.setCell], fun k hk hr => heap_setCell_other _ _ _ _ (by simpa using hr)⟩
theorem grown_drew (w : World) (r : Option Nat) : w.grownBy w.drew r := ⟨rfl, rfl, rfl, Nat.le_refl _, fun _ _ _ => rfl⟩


theorem wf_set {zs : List Int} (h : ∀ z ∈ zs, (Lit.int .u8 z).wf = true) {v : Int} (hv : (Lit.int .u8 v).wf = true) {i : Nat} : ∀ z ∈ zs.set i v, (Lit.int .u8 z).wf = true := by
  intro z hz
  rcases List.mem_or_eq_of_mem_set hz with h' | rfl
  · exact h z h'
  · exact hv
theorem IsBlk.put16 {zs : List Int} (h : IsBlk zs) (off : Nat) (v : Int) : IsBlk (put16 zs off v) :=
  ⟨by rw [put16_length]; exact h.len, wf_set (wf_set h.wf (wf_byte (by omega) (by omega))) (wf_byte (by omega) (by omega))⟩

theorem put_world {w : World} {g off n : Nat} {v : Int} {zs : List Int} (H : Blk w g zs) (hn : IntKind.u16.wrap v = (n : Int)) (o : Obj) :
    Blk ((w.alloc o).setCells g off (Lib.byteCells (Lib.beBytes 2 n))) g (put16 zs off v) ∧ w.grownBy ((w.alloc o).setCells g off (Lib.byteCells (Lib.beBytes 2 n))) (some g) := by
  obtain ⟨hB, t, hg⟩ := H
  rw [byteCells16]
  simp only [World.setCells]
  have e1 : ((n / 256 % 256 : Nat) : Int) = v / 256 % 256 := by rw [IntKind.wrap_u16] at hn; omega
  have e2 : ((n % 256 : Nat) : Int) = v % 256 := by rw [IntKind.wrap_u16] at hn; omega
  rw [e1, e2]
  have h0 : (w.alloc o).heap[g]? = some (.cells (cellsOf zs) t (0, 0)) := (Below.heap_alloc w o g (lt_of_block hg)).trans hg
  have h1 := heap_setCell_same (w.alloc o) g off _ t (.int .u8 (v / 256 % 256)) h0
  rw [set_cellsOf] at h1
  have h2 := heap_setCell_same _ g (off + 1) _ t (.int .u8 (v % 256)) h1
  rw [set_cellsOf] at h2
  exact ⟨⟨hB.put16 off v, t, h2⟩, grown_trans (World.grownBy_alloc w o _) (grown_trans (grown_setCell _ g off _) (grown_setCell _ g (off + 1) _))⟩

set_option maxHeartbeats 400000 in
/-- (*Block).setU16 -/
theorem set24 (g : Nat) (off : Int) (m : Nat) (v : Int) (zs : List Int) (w : World) (hm : off = (m : Int)) (hoff : m + 2 ≤ 8192) (H : Blk w g zs) :
    Calls Tryf.prog 24 #[.pointer (some ⟨g, 0, none⟩), .int .i64 off, .int .i64 v] w fun e w' => e = .returned (.tuple #[]) ∧ Blk w' g (put16 zs m v) ∧ w.grownBy w' (some g) := by
  subst hm
  obtain ⟨n, hn⟩ : ∃ n : Nat, IntKind.u16.wrap v = (n : Int) := ⟨(v % 65536).toNat, by rw [IntKind.wrap_u16]; omega⟩
  have hn1 : n < 65536 := by rw [IntKind.wrap_u16] at hn; omega
  have hC : ∀ W : World, W.heap = w.heap → Calls Tryf.prog 31 #[.agg #[], .slice (some ⟨g, m, none⟩) (8192 - m) (8192 - m), .int .u16 (IntKind.u16.wrap v)] W fun e w' => e = .returned (.tuple #[]) ∧ Blk w' g (put16 zs m v) ∧ W.grownBy w' (some g) := by
    intro W hW
    have H' : Blk W g zs := H.heap (by rw [hW])
    have hP := Tryf.binary_BE_PutUint16 g m (8192 - m) (8192 - m) n hn1 _ _ W (by omega) (H'.cell m (by omega)) (H'.cell (m + 1) (by omega)) (H'.frozen _) (H'.frozen _)
    rw [← hn] at hP
    refine hP.mono ?_
    rintro e w' ⟨rfl, rfl⟩
    exact ⟨rfl, put_world H' hn _⟩
  clear hn H
  have h1 : (0 : Int) ≤ (m : Int) := by omega
  have h2 : (m : Int) ≤ 8192 := by omega
  have h3 : (m : Int) < 8192 := by omega
  have h4 : ¬ 8192 = m := by omega
  go_enter Tryf.func24, Tryf.ntmps24
  go_region_with (go_at_call 31; refine (hC _ (by rfl)).mono ?_; rintro e w' ⟨rfl, hb⟩)
  all_goals
    go_wp2
    go_end0
    exact ⟨rfl, hb.1, grown_trans (grown_drew _ _) hb.2⟩

theorem below_grown {w w' : World} {r : Option Nat} (h : Below w.heap.size w w') : w.grownBy w' r := ⟨h.os, h.tape, h.output, h.size, fun k hk _ => h.block k hk⟩

set_option maxHeartbeats 400000 in
/-- (*Block).setEntry -/
theorem setEntry25 (g : Nat) (slot : Int) (i : Nat) (off n : Int) (zs : List Int) (w : World) (hs : slot = (i : Int)) (hi : i ≤ 70000) (he : ent zs i + 4 ≤ 8192) (H : Blk w g zs) :
    Calls Tryf.prog 25 #[.pointer (some ⟨g, 0, none⟩), .int .i64 slot, .int .i64 off, .int .i64 n] w fun e w' => e = .returned (.tuple #[]) ∧ Blk w' g (put16 (put16 zs (ent zs i) off) (ent zs i + 2) n) ∧ w.grownBy w' (some g) := by
  have hE := entry27 g slot i zs w hs hi H
  have hR := fun w' (hb : Below w.heap.size w w') => set24 g (ent zs i : Int) (ent zs i) off zs w' rfl (by omega) (H.below hb)
  clear H
  subst hs
  generalize ent zs i = en at *
  go_enter Tryf.func25, Tryf.ntmps25
  go_wp2_with fail
  refine hE.mono ?_
  rintro e w1 ⟨rfl, b1⟩
  go_wp2_with fail
  refine (hR _ b1).mono ?_
  rintro e w2 ⟨rfl, H2, r2⟩
  go_wp2_with fail
  refine (set24 g ((en : Int) + 2) (en + 2) n _ _ (by omega) (by omega) H2).mono ?_
  rintro e w3 ⟨rfl, H3, r3⟩
  go_wp2
  go_end0
  exact ⟨rfl, H3, grown_trans (grown_trans (below_grown b1) r2) r3⟩
end Go.Proofs.Qxb6612825aFmt
