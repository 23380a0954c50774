/-
  WHAT BOTH CARDS WANT: the witness of a told row; a row of bytes, opened.
-/
import Derived.Test.Qxb6612825aFmtModelWalk
import Derived.Test.Qxb6612825aFmtCards
import Derived.ShutString
import Derived.ChangeOld
import Derived.ChangeSlices
import Derived.Below
import Derived.SevenToldRow
import Derived.Stop.JoinedTold
namespace Go.Proofs.Qxb6612825aFmt
open Go.ChangeShapes Go.WideShapes Go.ChangeAt Go.RowKit Go.Proofs.Qxb6612825aFmt.Big
open Go.Extern.Stop Go.Stop Go.Extern
set_option linter.unusedVariables false

theorem Tryf.own : ownKnob Tryf.prog.godebug = none := by kernel_rfl
theorem Tryf.laidOut : laidOutB Tryf.prog = true := by kernel_rfl
theorem Tryf.cells22 : Tryf.prog.cellsOf 22 = 8192 := by kernel_rfl
theorem Tryf.cells5 : Tryf.prog.cellsOf 5 = 1 := by kernel_rfl
theorem Tryf.depth2 : Tryf.prog.depth = (Tryf.prog.depth - 2) + 2 := by kernel_rfl
theorem Tryf.stops : Tryf.pinned.checked.prog.stops = ["fmt.Sprintf"] := by kernel_rfl
theorem Tryf.stopKnobs : Tryf.pinned.checked.prog.stopKnobs = [] := by kernel_rfl
theorem Tryf.quiet (os : Os) : Stop.quiet Tryf.pinned.checked.prog os := by
  intro k hk
  rw [Tryf.stopKnobs] at hk
  cases hk

/-- The witness's array: all zero. -/
def zeros : List Int := List.replicate 8192 0
theorem zeros_length : zeros.length = 8192 := List.length_replicate
theorem zeros_wf : ∀ z ∈ zeros, (Lit.int .u8 z).wf = true := by intro z hz; rw [(List.mem_replicate.1 hz).2]; decide
theorem zeros_has : ∀ z ∈ zeros, IntKind.has .u8 z := by intro z hz; rw [(List.mem_replicate.1 hz).2]; unfold IntKind.has; decide

section
variable {H : Type} {enc : TypeId × Value → H}
/-- THE WITNESS OF A TOLD ROW WHOSE ARGUMENTS LEAD TO NO MEMORY. -/
theorem witnessTold {C : Checked} {os : Os} {f : FuncId} {fn : Func} {s : ChangeSpec} {apart : Bool} (modest : Bool) (args : Array Value) (ds : List (DataW H))
    (hv : (World.plainHolding C.prog os ⟨#[], args, []⟩).variablesB C.prog = true)
    (hr : ((World.plainHolding C.prog os ⟨#[], args, []⟩).heap.toList.drop C.prog.globals.size).take ((begin C.prog (fun _ _ => 0) default).world.heap.size - C.prog.globals.size) =
      (begin C.prog (fun _ _ => 0) default).world.heap.toList.drop C.prog.globals.size)
    (hinit : C.prog.inits.idxOf? f = none) (hfn : C.prog.funcs[f]? = some fn) (hbody : fn.body.isSome = true) (hours : fn.ours = false) (hfree : fn.nfree = 0) (hsize : args.size = fn.params.size)
    (hval : ∀ (w : World) (base j : Nat) t v, fn.params[j]? = some t → args[j]? = some v → Value.okWide C.prog w .any base t v)
    (hvars : s.vars = [])
    (htrod : ∀ w : World, DataW.TrodAll enc C.prog w 0 (fun _ => true) true fn.params.toList args.toList ds [])
    (hsized : ∀ w : World, (∃ before, DataW.Whole enc C.prog fn.params.toList s.vars apart w args.toList ds [] before) → sizedMet enc C.prog fn (OpenSpec.ofChange s) apart w args) (F : Stop.Interp) :
    ∃ (w : World) (tape : Tape) (i : Input), w.os = os ∧ (w.forCall tape i).Shaped C.prog ∧ i.vars = [] ∧ Input.okWide C.prog (w.forCall tape i) .any w.heap.size f i ∧
      (OpenSpec.ofChange s).preRow enc C.prog fn [] apart [] (w.forCall tape i).memory i.args ∧ ({ modest := modest } : Assume).holds C.prog (lone (Frame.enter C.prog f i.args .normal) [] (w.forCall tape i)) ∧ F.answers tape := by
  have hwhole : ∀ w : World, DataW.Whole enc C.prog fn.params.toList s.vars apart w args.toList ds [] [] := fun w =>
    ⟨[], [], htrod w, by rw [hvars]; rfl, rfl, by intro b o h; simp at h, fun _ => List.nodup_nil⟩
  refine ⟨World.holding C.prog os ⟨#[], args, []⟩, F.over fun _ _ => 0, ⟨#[], args, []⟩, rfl, World.shaped_of_B hv hr, rfl, ⟨?_, ?_, hinit, fn, hfn, hbody, hours, hfree, hsize, ?_⟩, ⟨⟨⟨ds, [], [], hwhole _, rfl⟩, laidMetH_nil _ _⟩, hsized _ ⟨[], hwhole _⟩⟩, ?_, F.over_answers _⟩
  · intro o ho; simp at ho
  · intro gv hg; simp at hg
  · intro j t v h1 h2; exact hval _ _ j t v h1 h2
  · simp only [Assume.holds]
    exact ⟨by simp, by simp, fun _ => F.over_modest Modest.zero, by simp, by simp⟩

theorem okWide_nil23 {w : World} {base : Nat} : Value.okWide Tryf.prog w .any base 23 (.slice none 0 0) := by
  unfold Value.okWide
  rw [Tryf.underlying23]
  simp [Cell.okWide, Cell.ok, Tryf.underlying23]
theorem trod_nil23 {w : World} {base : Nat} {spare : Nat → Bool} {held : Bool} : DataW.Trod enc Tryf.prog w base spare held 23 (.slice none 0 0) .nil [] := by
  refine ⟨1, ?_⟩
  simp [DataW.trod, Tryf.underlying23, Value.cells]

/-- A row of bytes handed in: where it lies. -/
theorem given_of {W : World} {base : Nat} {v : Value} {d : DataW H} {p : List MemPlace} (hok : Value.okWide Tryf.prog W .any base 23 v) (h : DataW.Trod enc Tryf.prog W 0 (fun _ => true) true 23 v d p) :
    ∃ ra rs cap, v = .slice ra rs.length cap ∧ Given W ra rs := by
  obtain ⟨a0, len, cap, rfl⟩ := okWide_slice Tryf.underlying23 hok
  obtain ⟨fuel, hf⟩ := h
  rcases open_ints Tryf.underlying23 Tryf.underlying5 Tryf.cells5 hf with ⟨hcs, _⟩ | ⟨a, len', cap', zs, hcs, _, hl, hm, hz, _, hcell, hwz⟩
  · simp [Value.cells] at hcs
    obtain ⟨rfl, rfl, rfl⟩ := hcs
    exact ⟨none, [], 0, rfl, ⟨fun z hz => (by cases hz), .inl rfl⟩⟩
  · simp [Value.cells] at hcs
    obtain ⟨rfl, rfl, rfl⟩ := hcs
    simp only [if_true] at hz
    have hlen : (zs.take len).length = len := by rw [List.length_take]; omega
    refine ⟨some a, zs.take len, cap, by rw [hlen], fun z hz' => hwz z (List.mem_of_mem_take hz'), ?_⟩
    by_cases h0 : len = 0
    · subst h0
      exact .inl (by simp)
    · have hc : ∀ j, j < (zs.take len).length → W.cell? (a.add j) = some (.int .u8 ((zs.take len).getD j 0)) := by
        intro j hj
        rw [hlen] at hj
        rw [hcell j (by omega)]
        simp [List.getElem?_take_of_lt hj]
      obtain ⟨b, o, sp⟩ := a
      have h1 := hc 0 (by omega)
      cases sp with
      | some x =>
        exfalso
        simp only [World.cell?, Addr.add] at h1
        split at h1 <;> simp at h1
      | none =>
        refine .inr ⟨b, o, rfl, block_lt_of_cell h1, fun j hj => ?_⟩
        have := hc j hj
        rw [Go.WideShapes.add_plain] at this
        exact this
end
end Go.Proofs.Qxb6612825aFmt
