/-
  THE WALKS OF THE TWO COPIERS (zzCopyBytes, zzCopyInts): each hands back a new row with the same elements, or nil where nil came in.
-/
import Derived.Test.Qxb6612677aRows
import Derived.WalkKit
import Derived.WalkSpells
import Derived.WalkLawsBesides
import Derived.Lib.SliceRun
namespace Go.Proofs.Qxb6612677a
open Go.RowKit
set_option linter.unusedVariables false

/-- WHAT THE WALK IS TOLD OF A SLICE OF INTEGERS THAT CAME IN. -/
def IsRow (k : IntKind) (w : World) (a : Option Addr) (len cap : Nat) (zs : List Int) : Prop :=
  (a = none ∧ len = 0 ∧ cap = 0 ∧ zs = []) ∨
  ∃ x, a = some x ∧ len ≤ cap ∧ cap ≤ maxLen ∧ zs.length = cap ∧ (∀ i, i < zs.length → w.cell? (x.add i) = some (.int k (zs.getD i 0))) ∧ ∀ n ∈ zs, (Lit.int k n).wf = true

theorem Try.info3 : (Try.prog.info? 3).map (fun i => (i.zero, i.size, i.bytes)) = some (some (.int .i64 0), 1, 8) := by kernel_rfl
theorem Try.info5 : (Try.prog.info? 5).map (fun i => (i.zero, i.size, i.bytes)) = some (some (.int .u8 0), 1, 1) := by kernel_rfl

/-- What the copy holds behind k rounds. -/
def half (k : IntKind) (zs : List Int) (len i : Nat) : List Value := (zs.take i).map (Value.int k) ++ List.replicate (len - i) (Value.int k 0)

theorem half_zero (k : IntKind) (zs : List Int) (len : Nat) : half k zs len 0 = List.replicate len (Value.int k 0) := by simp [half]
theorem half_full (k : IntKind) (zs : List Int) (len : Nat) : half k zs len len = (zs.take len).map (Value.int k) := by simp [half]
theorem half_set (k : IntKind) (zs : List Int) (len i : Nat) (h : i < len) (hz : len ≤ zs.length) : (half k zs len i).set i (Value.int k (zs.getD i 0)) = half k zs len (i + 1) := by
  have hi : i < zs.length := by omega
  unfold half
  rw [List.set_append_right _ _ (by simp; omega)]
  have e : len - i = (len - (i + 1)) + 1 := by omega
  rw [e, List.replicate_succ, List.take_succ_eq_append_getElem hi]
  have hg : zs.getD i 0 = zs[i] := by simp [hi]
  rw [hg]
  simp only [List.length_map, List.length_take, Nat.min_eq_left (Nat.le_of_lt hi), Nat.sub_self, List.set_cons_zero, List.map_append, List.map_cons, List.map_nil, List.append_assoc, List.cons_append, List.nil_append]
theorem half_isSome (k : IntKind) (zs : List Int) (len i j : Nat) (h : j < len) (hz : len ≤ zs.length) (hi : i ≤ len) : ∃ v, (half k zs len i)[j]? = some v := by
  have hl : j < (half k zs len i).length := by simp [half]; omega
  exact ⟨_, List.getElem?_eq_getElem hl⟩

theorem made_int (k : IntKind) (z : Int) (n : Nat) : (madeCells (Value.int k z).cells (n * 1)).toList = List.replicate n (Value.int k z) := by
  simp only [madeCells, Value.cells, Nat.mul_one]
  refine List.ext_getElem (by simp) fun i h1 h2 => ?_
  simp [Nat.mod_one]

set_option maxHeartbeats 400000 in
theorem copyInts (x : Addr) (len cap : Nat) (zs : List Int) (w : World) (hl : len ≤ zs.length) (hb : len ≤ 1048576)
    (hc : ∀ i, i < zs.length → w.cell? (x.add i) = some (.int .i64 (zs.getD i 0))) :
    Calls Try.prog 16 #[.slice (some x) len cap] w fun e w' => e = .returned (.slice (some ⟨w.heap.size, 0, none⟩) len len) ∧
      w'.ownsRow w.heap.size 3 1 (.slice (some ⟨w.heap.size, 0, none⟩) len len) len ((zs.take len).map (Value.int .i64)) ∧ Below w.heap.size w w' := by
  obtain ⟨i0, hi, hz0, hz1, hz2⟩ := info_parts Try.info3
  have q37 : ∀ (w : World) (a : Option Addr) (n c n' c' : Nat), (binOp .eql 37 (.slice a n c) (.slice none n' c')).run Try.prog w = .ok (.bool a.isNone) w := fun w a n c n' c' => Lib.run_eql_slice_nil w _ _ a n c n' c' Try.underlying37
  go_enter Try.func16, Try.ntmps16
  go_wp2_with (refine wpList_make_full _ rfl (.tmp 8) (.tmp 8) 37 rfl w.heap.size 3 i0 (.int .i64 0) 1 Try.underlying37 hi hz0 hz1 .i64 .i64 len len len rfl rfl rfl rfl (by rw [hz2]; omega) (by unfold maxLen; omega) (Nat.le_refl _) ?_; intro w1 hown hgrow)
  have hb1 : Below w.heap.size w w1 := (Below.refl _ _).grown hgrow (Nat.le_refl _) (fun k h => by cases h)
  have hw1 : w.heap.size < w1.heap.size := by
    rcases hown.2 with ⟨h, _⟩ | ⟨g, _, _, h, _, hg, _⟩
    · simp at h
    · simp at h; obtain ⟨rfl, rfl⟩ := h; exact lt_of_block hg
  have hm0 : (madeCells (Value.int .i64 0).cells (len * 1)).toList = half .i64 zs len 0 := by rw [half_zero]; exact made_int .i64 0 len
  rw [hm0] at hown
  clear hm0 hgrow
  go_loopw [4] (fun j wr => ∃ k : Nat, k ≤ len ∧ j = .int .i64 k ∧ wr.ownsRow w.heap.size 3 1 (.slice (some ⟨w.heap.size, 0, none⟩) len len) len (half .i64 zs len k) ∧ Below w.heap.size w wr)
    (fun j _ => len - (intOf j).toNat)
  case atStart => exact ⟨0, Nat.zero_le _, rfl, hown, hb1⟩
  case round =>
    obtain ⟨k, hk, rfl, hor, hbr⟩ := hrel
    by_cases hlt : k < len
    · have hs := hc k (by omega)
      have hsr : wr.cell? (x.add k) = some (.int .i64 (zs.getD k 0)) := by rw [hbr.cell (block_lt_of_cell hs)]; exact hs
      clear hs
      obtain ⟨u, hu⟩ := half_isSome .i64 zs len k k hlt hl hk
      have hd : wr.cell? ⟨w.heap.size, k, none⟩ = some u := by rw [hor.cellAt k (by omega)]; exact hu
      have hf : wr.frozen? ⟨w.heap.size, k, none⟩ = false := hor.frozenAt k
      have hst := hor.stored k (.int .i64 (zs.getD k 0))
      rw [half_set .i64 zs len k hlt hl] at hst
      have hb2 := hbr.grown hst.2 hbr.size (fun j h => by simp at h; omega)
      go_wp2
      go_roundw
      case rel => exact ⟨k + 1, by omega, by go_num, hst.1, hb2⟩
      case measure => simp [intOf]; omega
    · go_wp2
      go_ret
      have : k = len := by omega
      subst this
      rw [half_full] at hor
      exact ⟨rfl, hor, hbr⟩

set_option maxHeartbeats 400000 in
theorem copyBytes (x : Addr) (len cap : Nat) (zs : List Int) (w : World) (hl : len ≤ zs.length) (hb : len ≤ 1048576)
    (hc : ∀ i, i < zs.length → w.cell? (x.add i) = some (.int .u8 (zs.getD i 0))) :
    Calls Try.prog 15 #[.slice (some x) len cap] w fun e w' => e = .returned (.slice (some ⟨w.heap.size, 0, none⟩) len len) ∧
      w'.ownsRow w.heap.size 5 1 (.slice (some ⟨w.heap.size, 0, none⟩) len len) len ((zs.take len).map (Value.int .u8)) ∧ Below w.heap.size w w' := by
  obtain ⟨i0, hi, hz0, hz1, hz2⟩ := info_parts Try.info5
  have q36 : ∀ (w : World) (a : Option Addr) (n c n' c' : Nat), (binOp .eql 36 (.slice a n c) (.slice none n' c')).run Try.prog w = .ok (.bool a.isNone) w := fun w a n c n' c' => Lib.run_eql_slice_nil w _ _ a n c n' c' Try.underlying36
  go_enter Try.func15, Try.ntmps15
  go_wp2_with (refine wpList_make_full _ rfl (.tmp 8) (.tmp 8) 36 rfl w.heap.size 5 i0 (.int .u8 0) 1 Try.underlying36 hi hz0 hz1 .i64 .i64 len len len rfl rfl rfl rfl (by rw [hz2]; omega) (by unfold maxLen; omega) (Nat.le_refl _) ?_; intro w1 hown hgrow)
  have hb1 : Below w.heap.size w w1 := (Below.refl _ _).grown hgrow (Nat.le_refl _) (fun k h => by cases h)
  have hw1 : w.heap.size < w1.heap.size := by
    rcases hown.2 with ⟨h, _⟩ | ⟨g, _, _, h, _, hg, _⟩
    · simp at h
    · simp at h; obtain ⟨rfl, rfl⟩ := h; exact lt_of_block hg
  have hm0 : (madeCells (Value.int .u8 0).cells (len * 1)).toList = half .u8 zs len 0 := by rw [half_zero]; exact made_int .u8 0 len
  rw [hm0] at hown
  clear hm0 hgrow
  go_loopw [4] (fun j wr => ∃ k : Nat, k ≤ len ∧ j = .int .i64 k ∧ wr.ownsRow w.heap.size 5 1 (.slice (some ⟨w.heap.size, 0, none⟩) len len) len (half .u8 zs len k) ∧ Below w.heap.size w wr)
    (fun j _ => len - (intOf j).toNat)
  case atStart => exact ⟨0, Nat.zero_le _, rfl, hown, hb1⟩
  case round =>
    obtain ⟨k, hk, rfl, hor, hbr⟩ := hrel
    by_cases hlt : k < len
    · have hs := hc k (by omega)
      have hsr : wr.cell? (x.add k) = some (.int .u8 (zs.getD k 0)) := by rw [hbr.cell (block_lt_of_cell hs)]; exact hs
      clear hs
      obtain ⟨u, hu⟩ := half_isSome .u8 zs len k k hlt hl hk
      have hd : wr.cell? ⟨w.heap.size, k, none⟩ = some u := by rw [hor.cellAt k (by omega)]; exact hu
      have hf : wr.frozen? ⟨w.heap.size, k, none⟩ = false := hor.frozenAt k
      have hst := hor.stored k (.int .u8 (zs.getD k 0))
      rw [half_set .u8 zs len k hlt hl] at hst
      have hb2 := hbr.grown hst.2 hbr.size (fun j h => by simp at h; omega)
      go_wp2
      go_roundw
      case rel => exact ⟨k + 1, by omega, by go_num, hst.1, hb2⟩
      case measure => simp [intOf]; omega
    · go_wp2
      go_ret
      have : k = len := by omega
      subst this
      rw [half_full] at hor
      exact ⟨rfl, hor, hbr⟩

theorem copyIntsNil (w : World) : Calls Try.prog 16 #[.slice none 0 0] w fun e w' => e = .returned (.slice none 0 0) ∧ w' = w := by
  have q37 : ∀ (w : World) (a : Option Addr) (n c n' c' : Nat), (binOp .eql 37 (.slice a n c) (.slice none n' c')).run Try.prog w = .ok (.bool a.isNone) w := fun w a n c n' c' => Lib.run_eql_slice_nil w _ _ a n c n' c' Try.underlying37
  go_enter Try.func16, Try.ntmps16
  go_wp2
  go_ret
  exact ⟨rfl, rfl⟩
theorem copyBytesNil (w : World) : Calls Try.prog 15 #[.slice none 0 0] w fun e w' => e = .returned (.slice none 0 0) ∧ w' = w := by
  have q36 : ∀ (w : World) (a : Option Addr) (n c n' c' : Nat), (binOp .eql 36 (.slice a n c) (.slice none n' c')).run Try.prog w = .ok (.bool a.isNone) w := fun w a n c n' c' => Lib.run_eql_slice_nil w _ _ a n c n' c' Try.underlying36
  go_enter Try.func15, Try.ntmps15
  go_wp2
  go_ret
  exact ⟨rfl, rfl⟩

/-- zzCopyInts at whatever slice came in. -/
theorem copyInts_any (a : Option Addr) (len cap : Nat) (zs : List Int) (w : World) (h : IsRow .i64 w a len cap zs) (hb : len ≤ 1048576) :
    Calls Try.prog 16 #[.slice a len cap] w fun e w' => ∃ v, e = .returned v ∧ (∃ b, v = .slice b len len) ∧
      w'.ownsRow w.heap.size 3 1 v len ((zs.take len).map (Value.int .i64)) ∧ Below w.heap.size w w' := by
  rcases h with ⟨rfl, rfl, rfl, rfl⟩ | ⟨x, rfl, h1, _, h2, h3, _⟩
  · refine (copyIntsNil w).mono ?_
    rintro e w' ⟨rfl, rfl⟩
    exact ⟨_, rfl, ⟨_, rfl⟩, World.ownsRow_nil _ _ _ _, Below.refl _ _⟩
  · refine (copyInts x len cap zs w (by omega) hb h3).mono ?_
    rintro e w' ⟨rfl, h4, h5⟩
    exact ⟨_, rfl, ⟨_, rfl⟩, h4, h5⟩
/-- zzCopyBytes at whatever slice came in. -/
theorem copyBytes_any (a : Option Addr) (len cap : Nat) (zs : List Int) (w : World) (h : IsRow .u8 w a len cap zs) (hb : len ≤ 1048576) :
    Calls Try.prog 15 #[.slice a len cap] w fun e w' => (∃ b, e = .returned (.slice b len len)) ∧ Below w.heap.size w w' := by
  rcases h with ⟨rfl, rfl, rfl, rfl⟩ | ⟨x, rfl, h1, _, h2, h3, _⟩
  · refine (copyBytesNil w).mono ?_
    rintro e w' ⟨rfl, rfl⟩
    exact ⟨⟨_, rfl⟩, Below.refl _ _⟩
  · refine (copyBytes x len cap zs w (by omega) hb h3).mono ?_
    rintro e w' ⟨rfl, h4, h5⟩
    exact ⟨⟨_, rfl⟩, h5⟩
end Go.Proofs.Qxb6612677a
