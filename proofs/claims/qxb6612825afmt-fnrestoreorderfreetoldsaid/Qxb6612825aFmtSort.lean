/-
  compact's SORT: by offset, from the highest on. slices.SortFunc by the library's contract.
-/
import Derived.Test.Qxb6612825aFmtBase2
import Derived.Test.Qxb6612825aFmtSortLay
namespace Go.Proofs.Qxb6612825aFmt
open Go.RowKit Go.Proofs.Qxb6612825aFmt.Big Go.Shelf Go.Lib Go.Sort
set_option linter.unusedVariables false

/-- A row's three cells. -/
def encPl (x : Pl) : List Value := [.int .i64 (x.1 : Int), .int .i64 (x.2.1 : Int), .int .i64 (x.2.2 : Int)]
/-- How two are compared: the higher offset first. -/
def cmpPl (x y : Pl) : Int := if x.2.1 = y.2.1 then 0 else if y.2.1 < x.2.1 then -1 else 1

set_option maxHeartbeats 400000 in
theorem compare30 (x y : Nat) (w : World) : Calls Tryf.prog 30 #[.int .i64 (y : Int), .int .i64 (x : Int)] w fun e w' => e = .returned (.int .i64 (if x = y then 0 else if y < x then -1 else 1)) ∧ w' = w := by
  by_cases h1 : x = y
  · subst h1
    rw [if_pos rfl]
    go_enter Tryf.func30, Tryf.ntmps30
    go_wp2_with (go_at_call 36; refine (Tryf.cmp_isNaN_int2 _ _).mono ?_; rintro e w' ⟨rfl, rfl⟩)
    go_ret
    exact ⟨rfl, rfl⟩
  · rw [if_neg h1]
    by_cases h2 : y < x
    · rw [if_pos h2]
      go_enter Tryf.func30, Tryf.ntmps30
      go_wp2_with (go_at_call 36; refine (Tryf.cmp_isNaN_int2 _ _).mono ?_; rintro e w' ⟨rfl, rfl⟩)
      go_ret
      exact ⟨rfl, rfl⟩
    · rw [if_neg h2]
      have h3 : x < y := by omega
      go_enter Tryf.func30, Tryf.ntmps30
      go_wp2_with (go_at_call 36; refine (Tryf.cmp_isNaN_int2 _ _).mono ?_; rintro e w' ⟨rfl, rfl⟩)
      go_ret
      exact ⟨rfl, rfl⟩

set_option maxHeartbeats 400000 in
theorem closure29 (x y : Pl) (W : World) : Calls Tryf.prog 29 #[.agg #[.int .i64 (x.1 : Int), .int .i64 (x.2.1 : Int), .int .i64 (x.2.2 : Int)], .agg #[.int .i64 (y.1 : Int), .int .i64 (y.2.1 : Int), .int .i64 (y.2.2 : Int)]] W fun e w' => e = .returned (.int .i64 (cmpPl x y)) ∧ ∃ q os', w' = grow (W.drewN q) os' := by
  have hcon : ∀ W', Calls Tryf.prog 30 #[.int .i64 (y.2.1 : Int), .int .i64 (x.2.1 : Int)] W' fun e w' => e = .returned (.int .i64 (cmpPl x y)) ∧ w' = W' := fun W' => compare30 x.2.1 y.2.1 W'
  generalize cmpPl x y = r at hcon ⊢
  go_enter Tryf.func29, Tryf.ntmps29
  go_wp2_with (go_at_call 30; refine (hcon _).mono ?_; rintro e w' ⟨rfl, rfl⟩)
  go_ret
  exact ⟨rfl, 0, _, by rw [alloc_eq_grow, alloc_eq_grow, grow_grow]; rfl⟩

theorem cmpLays29 (blk off size : Nat) (w : World) : CmpLays Tryf.prog 29 #[] encPl 3 cmpPl blk off size w :=
  fun _ _ _ _ x y => closure29 x y _

theorem ltPl (x y : Pl) : ltOf cmpPl x y = decide (y.2.1 < x.2.1) := by
  unfold ltOf cmpPl
  by_cases h1 : x.2.1 = y.2.1
  · simp [h1]
  · by_cases h2 : y.2.1 < x.2.1 <;> simp [h1, h2]
theorem swoPl : SWO (ltOf cmpPl) where
  irrefl x := by rw [ltPl]; simp
  trans x y z h1 h2 := by rw [ltPl] at *; simp at *; omega
  ntrans x y z h1 h2 := by rw [ltPl] at *; simp at *; omega

/-- Block b's cells hold the rows ds. -/
def PlRow (w : World) (b : Nat) (ds : List Pl) : Prop := ∀ j, j < ds.length → ∀ t, t < 3 → w.cell? ⟨b, j * 3 + t, none⟩ = some ((encPl (ds.getD j default)).getD t undef) ∧ w.frozen? ⟨b, j * 3 + t, none⟩ = false

theorem holds_pl {w : World} {b : Nat} {ds : List Pl} (h : PlRow w b ds) : HoldsK encPl 3 w b 0 ds.toArray := by
  intro j hj
  have hj' : j < ds.length * 3 := by simpa using hj
  have h1 := h (j / 3) (by omega) (j % 3) (by omega)
  have e : j / 3 * 3 + j % 3 = j := by omega
  rw [e] at h1
  have hd : j / 3 < ds.length := by omega
  rw [Nat.zero_add]
  refine ⟨?_, h1.2⟩
  rw [h1.1, get_flatK _ _ _ _ (by simpa using hj')]
  have e2 : ds.toArray[j / 3]! = ds.getD (j / 3) default := by simp [hd]
  rw [e2]
  generalize ds.getD (j / 3) default = x
  have h3 : j % 3 < 3 := by omega
  generalize j % 3 = t at h3
  have : t = 0 ∨ t = 1 ∨ t = 2 := by omega
  rcases this with rfl | rfl | rfl <;> rfl

theorem pl_holds {w : World} {b : Nat} {ds : List Pl} (h : HoldsK encPl 3 w b 0 ds.toArray) : PlRow w b ds := by
  intro j hj t ht
  have h1 := h (j * 3 + t) (by simp; omega)
  rw [Nat.zero_add] at h1
  refine ⟨?_, h1.2⟩
  rw [h1.1, get_flatK _ _ _ _ (by simp; omega)]
  have e1 : (j * 3 + t) / 3 = j := by omega
  have e2 : (j * 3 + t) % 3 = t := by omega
  have e3 : ds.toArray[j]! = ds.getD j default := by simp [hj]
  rw [e1, e2, e3]
  generalize ds.getD j default = x
  have : t = 0 ∨ t = 1 ∨ t = 2 := by omega
  rcases this with rfl | rfl | rfl <;> rfl

set_option maxHeartbeats 400000 in
/-- slices.SortFunc as compact calls it. -/
theorem sort28 (b cap : Nat) (ds : List Pl) (w : World) (h : PlRow w b ds) (hb : b < w.heap.size) (hn : ds.length < 100000) :
    Calls Tryf.prog 28 #[.slice (some ⟨b, 0, none⟩) ds.length cap, .func (.func 29) #[] #[]] w fun e w' => e = .returned (.tuple #[]) ∧ ∃ ds' : List Pl, ds'.Perm ds ∧ (∀ i j, i < j → j < ds'.length → (ds'.getD j default).2.1 ≤ (ds'.getD i default).2.1) ∧ PlRow w' b ds' ∧ w.grownBy w' (some b) := by
  have eg : ∀ args w, (callFunc 29 args).run Tryf.prog w = .ok (.enter 29 args) w := enters_of Tryf.func29 (by kernel_rfl) rfl
  have hcon := AnyQ.slices_SortFunc Tryf.sortPl 3 Tryf.isAgg51 Tryf.sizeOf51 encPl (fun _ => rfl) (fun x v hv => by simp [encPl] at hv; rcases hv with rfl | rfl | rfl <;> rfl) cmpPl swoPl 29 #[] b 0 cap ds.toArray w eg (cmpLays29 b 0 _ w) (holds_pl h) hb (by simp; omega)
  change Calls Tryf.prog 28 _ _ _ at hcon
  rw [List.size_toArray] at hcon
  refine hcon.mono ?_
  rintro e w' ⟨rfl, d', n, os, hp, hs, rfl⟩
  obtain ⟨hps, _, hpp⟩ := hp
  have hsz : d'.size = ds.length := by simpa using hps
  have hH := holds_pl h
  refine ⟨rfl, d'.toList, ?_, ?_, ?_, ?_⟩
  · have e1 : d'.extract 0 ds.length = d' := by rw [← hsz]; simp
    have e2 : ds.toArray.extract 0 ds.length = ds.toArray := by simp
    rw [e1, e2] at hpp
    simpa using hpp
  · intro i j hij hj
    have hj' : j < d'.size := by simpa using hj
    have h1 := hs i j (Nat.zero_le _) hij (by omega)
    rw [ltPl] at h1
    have ei : d'[i]! = d'.toList.getD i default := by simp [(by omega : i < d'.size)]
    have ej : d'[j]! = d'.toList.getD j default := by simp [hj']
    rw [ei, ej] at h1
    simpa using h1
  · apply pl_holds
    have hH2 : Holds id (putRow id (Sort.ahead w n) b 0 (flatK encPl 3 d')) b 0 (flatK encPl 3 d') := holds_putRow id _ b 0 (flatK encPl 3 ds.toArray) _ (holds_ahead id w n b 0 _ hH) (by simp [hsz])
    have hH3 := holds_grow id _ os b 0 _ (by simpa using hb) hH2
    simpa [sortWorldK, putRowK, HoldsK] using hH3
  · refine ⟨rfl, rfl, rfl, by simp [sortWorldK, putRowK], fun k hk hne => ?_⟩
    unfold sortWorldK putRowK
    rw [heap_grow_old _ _ (by simpa using hk)]
    have : b ≠ k := fun e => hne (by rw [e])
    simp [putRow, mapBlock, Sort.ahead, Array.getElem?_modify, this]
end Go.Proofs.Qxb6612825aFmt
