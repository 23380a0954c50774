/-
  ARRAYS OF BYTES BY VALUE, OF WHATEVER LENGTH (no unrolling): how such a value reads, that it is a value of its type, and the witness of a row with such parameters. Of whatever program.
-/
import Derived.WalkKit
import Derived.ProofKit
import Derived.OpenShut
import Derived.Deep.WholeRow
namespace Go.Proofs.Qxb6612825aFmt.Big
set_option linter.unusedVariables false
open Go.ChangeShapes Go.WideShapes Go.ChangeAt Go.RowKit

/-- The array that holds the numbers zs as bytes. -/
def cellsOf (zs : List Int) : Array Value := (zs.map (Value.int .u8)).toArray
/-- It reads as. -/
def lits {H : Type} (zs : List Int) : List (DataW H) := zs.map fun z => .lit (.int .u8 z)

theorem size_cellsOf (zs : List Int) : (cellsOf zs).size = zs.length := by simp [cellsOf]

theorem mapM_mk {α β : Type} {f : α → Option β} {g : α → β} : ∀ (l : List α), (∀ x ∈ l, f x = some (g x)) → l.mapM f = some (l.map g)
  | [], _ => rfl
  | a :: l, h => by
    rw [List.mapM_cons, h a (by simp), mapM_mk l (fun x hx => h x (by simp [hx]))]
    rfl

section
variable {H : Type} {enc : TypeId × Value → H} {P : Program}

/-- HOW IT READS. -/
theorem trod_mk {w : World} {base : Nat} {spare : Nat → Bool} {held : Bool} {t e : TypeId} {n : Nat} (ht : P.underlying t = some (.array n e)) (he : P.underlying e = some (.int .u8)) (hce : P.cellsOf e = 1) (hct : P.cellsOf t = n)
    (zs : List Int) (hz : zs.length = n) (hw : ∀ z ∈ zs, (Lit.int .u8 z).wf = true) :
    DataW.Trod enc P w base spare held t (.agg (cellsOf zs)) (.agg (lits zs)) [] := by
  refine ⟨2, ?_⟩
  have hl : (Value.agg (cellsOf zs)).cells.toList = zs.map (Value.int .u8) := by simp [Value.cells, cellsOf]
  rw [hl]
  have key : (List.range n).mapM (fun i => DataW.trod enc P w base spare held 1 e (((zs.map (Value.int .u8)).drop (i * P.cellsOf e)).take (P.cellsOf e))) = some ((List.range n).map fun i => ((.lit (.int .u8 (zs.getD i 0)) : DataW H), ([] : List MemPlace))) := by
    refine mapM_mk _ fun i hi => ?_
    have hin : i < zs.length := by rw [hz]; simpa using hi
    have hd : ((zs.map (Value.int .u8)).drop (i * P.cellsOf e)).take (P.cellsOf e) = [Value.int .u8 (zs.getD i 0)] := by
      rw [hce, Nat.mul_one, ← List.map_drop, ← List.map_take, List.drop_eq_getElem_cons hin]
      simp only [List.take_succ_cons, List.take_zero, List.map_cons, List.map_nil]
      have e : zs.getD i 0 = zs[i] := by simp [hin]
      rw [e]
    have hwf : (Lit.int .u8 (zs.getD i 0)).wf = true := by
      have e : zs.getD i 0 = zs[i] := by simp [hin]
      rw [e]; exact hw _ (List.getElem_mem hin)
    rw [hd]
    simp only [DataW.trod, he]
    rw [if_pos ⟨trivial, hwf⟩]
  have hm : ((List.range n).map fun i => ((.lit (.int .u8 (zs.getD i 0)) : DataW H), ([] : List MemPlace))).map (·.1) = lits zs := by
    rw [List.map_map]
    refine List.ext_getElem (by simp [lits, hz]) fun i h1 h2 => ?_
    have hin : i < zs.length := by simpa [lits] using h2
    simp [lits, hin]
  unfold DataW.trod
  rw [ht]
  simp only [List.length_map, hct, hz, if_true]
  rw [key]
  simp only [Option.map_some, hm]
  congr 2
  simp

/-- It is a value of its type. -/
theorem okWide_mk {w : World} {r : Reach} {base : Nat} {t e : TypeId} {n d : Nat} (ht : P.underlying t = some (.array n e)) (he : P.underlying e = some (.int .u8)) (hct : P.cellsOf t = n) (hd : P.depth = d + 2)
    (zs : List Int) (hz : zs.length = n) (hw : ∀ z ∈ zs, IntKind.has .u8 z) : Value.okWide P w r base t (.agg (cellsOf zs)) := by
  have hts : P.cellTypes P.depth t = some (List.replicate n e) := by
    rw [hd]
    simp only [Program.cellTypes, ht, he, Option.map_some]
    congr 1
    exact List.flatten_replicate_singleton
  have hlen : (List.replicate n e).length = n := List.length_replicate
  unfold Value.okWide
  rw [ht]
  refine ⟨_, rfl, by rw [size_cellsOf, hz, hct], _, hts, ⟨1, by rw [size_cellsOf, hz, hlen, Nat.one_mul]⟩, fun i v hv => ⟨e, ?_, ?_⟩⟩
  · have hi : i < n := by
      have := (Array.getElem?_eq_some_iff.1 hv).1
      rw [size_cellsOf, hz] at this
      exact this
    rw [hlen, Nat.mod_eq_of_lt hi]
    simp [hi]
  · have hi : i < zs.length := by
      have := (Array.getElem?_eq_some_iff.1 hv).1
      rw [size_cellsOf] at this
      exact this
    have hvi : v = .int .u8 zs[i] := by
      simp [cellsOf, hi] at hv
      exact hv.symm
    rw [hvi]
    simp only [Cell.okWide, Cell.ok, he]
    exact ⟨trivial, hw _ (List.getElem_mem hi)⟩

/-- A number is a value of its type. -/
theorem okWide_u8 {w : World} {r : Reach} {base : Nat} {t : TypeId} {k : IntKind} {n : Int} (ht : P.underlying t = some (.int k)) (h : k.has n) : Value.okWide P w r base t (.int k n) := by
  unfold Value.okWide
  rw [ht]
  simp only [Cell.okWide, Cell.ok, ht]
  exact ⟨trivial, h⟩

/-- It weighs nothing. -/
theorem weights_mk {t e : TypeId} {n : Nat} (ht : P.underlying t = some (.array n e)) (zs : List Int) : DataW.weights P t (.agg (lits (H := H) zs)) = [] := by
  have h : ∀ l : List Int, DataW.weightsAll P e (lits (H := H) l) = [] := by
    intro l
    induction l with
    | nil => rfl
    | cons a l ih =>
      show DataW.weights P e (.lit (.int .u8 a)) ++ DataW.weightsAll P e (lits (H := H) l) = []
      rw [ih]
      simp [DataW.weights]
  simp [DataW.weights, ht, h]

/-- WHAT THE ARGUMENT HOLDS: opened. -/
theorem opened {w : World} {base : Nat} {spare : Nat → Bool} {held : Bool} {t e : TypeId} {n : Nat} {cs : Array Value} {d : DataW H} {ps : List MemPlace} (ht : P.underlying t = some (.array n e)) (he : P.underlying e = some (.int .u8)) (hce : P.cellsOf e = 1) (hct : P.cellsOf t = n)
    (h : DataW.Trod enc P w base spare held t (.agg cs) d ps) : ∃ zs : List Int, cs = cellsOf zs ∧ zs.length = n ∧ ∀ z ∈ zs, (Lit.int .u8 z).wf = true := by
  obtain ⟨fuel, hf⟩ := h
  obtain ⟨xs, m, _, _, hlen, hxl, hel⟩ := DataW.trod_array ht hf
  simp only [Value.cells] at hlen hel
  rw [hct] at hlen
  have hone : ∀ i (hi : i < cs.toList.length), ∃ z, cs.toList[i] = .int .u8 z ∧ (Lit.int .u8 z).wf = true := by
    intro i hi
    have hin : i < n := by omega
    have h1 := hel i hin
    rw [List.getElem?_eq_getElem (by omega : i < xs.length), hce, Nat.mul_one, List.drop_eq_getElem_cons hi] at h1
    simp only [List.take_succ_cons, List.take_zero] at h1
    obtain ⟨z, e0, _, wz⟩ := DataW.trod_int he h1
    simp only [List.cons.injEq, and_true] at e0
    exact ⟨z, e0, wz⟩
  refine ⟨cs.toList.map fun v => match v with | .int _ z => z | _ => 0, ?_, by simpa using hlen, ?_⟩
  · apply Array.ext'
    simp only [cellsOf, List.map_map]
    refine List.ext_getElem (by simp) fun i h1 h2 => ?_
    obtain ⟨z, hz, _⟩ := hone i h1
    simp only [List.getElem_map, Function.comp_apply, hz]
  · intro z hz
    obtain ⟨v, hv, rfl⟩ := List.mem_map.1 hz
    obtain ⟨i, hi, rfl⟩ := List.getElem_of_mem hv
    obtain ⟨z, hz', wz⟩ := hone i hi
    rw [hz']
    exact wz

/-- THE WITNESS OF A ROW WHOSE ARGUMENTS LEAD TO NO MEMORY: out of what they read as. -/
theorem witness {C : Checked} {os : Os} {f : FuncId} {fn : Func} {s : ChangeSpec} {apart : Bool} (modest : Bool) (args : Array Value) (ds : List (DataW H))
    (hv : (World.plainHolding C.prog os ⟨#[], args, []⟩).variablesB C.prog = true)
    (hr : ((World.plainHolding C.prog os ⟨#[], args, []⟩).heap.toList.drop C.prog.globals.size).take ((begin C.prog (fun _ _ => 0) default).world.heap.size - C.prog.globals.size) =
      (begin C.prog (fun _ _ => 0) default).world.heap.toList.drop C.prog.globals.size)
    (hinit : C.prog.inits.idxOf? f = none) (hfn : C.prog.funcs[f]? = some fn) (hbody : fn.body.isSome = true) (hours : fn.ours = false) (hfree : fn.nfree = 0) (hsize : args.size = fn.params.size)
    (hval : ∀ (w : World) (base j : Nat) t v, fn.params[j]? = some t → args[j]? = some v → Value.okWide C.prog w .any base t v)
    (hvars : s.vars = [])
    (htrod : ∀ w : World, DataW.TrodAll enc C.prog w 0 (fun _ => true) true fn.params.toList args.toList ds [])
    (hsized : ∀ w : World, (∃ before, DataW.Whole enc C.prog fn.params.toList s.vars apart w args.toList ds [] before) → sizedMet enc C.prog fn (OpenSpec.ofChange s) apart w args) :
    ∃ (w : World) (tape : Tape) (i : Input), w.os = os ∧ (w.forCall tape i).Shaped C.prog ∧ i.vars = [] ∧ Input.okWide C.prog (w.forCall tape i) .any w.heap.size f i ∧
      s.pre6 enc C.prog fn [] apart (w.forCall tape i).memory i.args ∧ ({ modest := modest } : Assume).holds C.prog (lone (Frame.enter C.prog f i.args .normal) [] (w.forCall tape i)) := by
  have hwhole : ∀ w : World, DataW.Whole enc C.prog fn.params.toList s.vars apart w args.toList ds [] [] := fun w =>
    ⟨[], [], htrod w, by rw [hvars]; rfl, rfl, by intro b o h; simp at h, fun _ => List.nodup_nil⟩
  refine ⟨World.holding C.prog os ⟨#[], args, []⟩, fun _ _ => 0, ⟨#[], args, []⟩, rfl, World.shaped_of_B hv hr, rfl, ⟨?_, ?_, hinit, fn, hfn, hbody, hours, hfree, hsize, ?_⟩, ⟨⟨ds, [], [], hwhole _, rfl⟩, hsized _ ⟨[], hwhole _⟩⟩, ?_⟩
  · intro o ho; simp at ho
  · intro gv hg; simp at hg
  · intro j t v h1 h2; exact hval _ _ j t v h1 h2
  · simp only [Assume.holds]
    exact ⟨by simp, by simp, fun _ => Modest.zero, by simp, by simp⟩

theorem oneCell_cellsOf (zs : List Int) : (cellsOf zs).all (·.oneCell') = true := by
  rw [Array.all_eq_true_iff_forall_mem]
  intro v hv
  simp only [cellsOf, List.mem_toArray, List.mem_map] at hv
  obtain ⟨z, _, rfl⟩ := hv
  rfl

/-- A GUARD FOR AN ARM: is this the operation? -/
theorem at_op {ops : Array Oper} {rest : List Oper} {o : Oper} {a : Act} {w : World} {Q : Exit → Act → World → Prop} (op : Op) (h : o.op = op) (g : wpList P ops Q (o :: rest) a w) : wpList P ops Q (o :: rest) a w := g
theorem at_ops {ops : Array Oper} {rest : List Oper} {o o' : Oper} {a : Act} {w : World} {Q : Exit → Act → World → Prop} (op op' : Op) (h : o.op = op) (h' : o'.op = op') (g : wpList P ops Q (o :: o' :: rest) a w) : wpList P ops Q (o :: o' :: rest) a w := g

/-- A whole array out of its block. -/
theorem wpList_load {ops : Array Oper} {rest : List Oper} {o : Oper} {a : Act} {w : World} {Q : Exit → Act → World → Prop} (hgd : o.guard = none) (ty : TypeId) (x : Operand) (ho : o.op = .load ty x)
    {n : Nat} {e : TypeId} (hu : P.underlying ty = some (.array n e)) (hi : (P.info? ty).map (·.size) = some n)
    (g : Nat) (hx : a.eval x = .pointer (some ⟨g, 0, none⟩)) (zs : List Int) (hz : zs.length = n) (t : TypeId) (hg : w.heap[g]? = some (.cells (cellsOf zs) t (0, 0)))
    (h : wpList P ops Q rest (a.put o.dst (.agg (cellsOf zs))) w) : wpList P ops Q (o :: rest) a w :=
  wpList_load_row hgd ty x ho g hx t (cellsOf zs) (0, 0) _ hg hu rfl (by rw [size_cellsOf, hz]; exact hi) h

/-- A new variable, and a whole array into it: 'b := T(a)' behind the load. -/
theorem wpList_new {ops : Array Oper} {rest : List Oper} {o o' : Oper} {a : Act} {w : World} {Q : Exit → Act → World → Prop} (hgd : o.guard = none) (hgd' : o'.guard = none) (ty : TypeId) (ho : o.op = .alloc ty) (x y : Operand) (ho' : o'.op = .store ty x y)
    {n : Nat} (hi : (P.info? ty).map (fun i => (i.zero.map fun v => v.cells.size, i.size)) = some (some n, n))
    (zs : List Int) (hz : zs.length = n) (hx : (a.put o.dst (.pointer (some ⟨w.heap.size, 0, none⟩))).eval x = .pointer (some ⟨w.heap.size, 0, none⟩)) (hy : (a.put o.dst (.pointer (some ⟨w.heap.size, 0, none⟩))).eval y = .agg (cellsOf zs))
    (h : wpList P ops Q rest ((a.put o.dst (.pointer (some ⟨w.heap.size, 0, none⟩))).put o'.dst undef) (w.alloc (.cells (cellsOf zs) ty))) : wpList P ops Q (o :: o' :: rest) a w := by
  refine wpList_plain hgd fun K hK => ?_
  cases hq : P.info? ty with
  | none => simp [hq] at hi
  | some i =>
    cases hv : i.zero with
    | none => simp [hq, hv] at hi
    | some v =>
      simp [hq, hv] at hi
      have hrun : (Instr.alloc ty true (.tuple #[])).run P w = .ok (.pointer (some ⟨w.heap.size, 0, none⟩)) (w.alloc (.cells v.cells ty)) := by
        have hz0 : (zeroValue ty).run P w = .ok v w := by simp [zeroValue, typeInfo, hq, hv]
        simp [Instr.alloc, Sem.run_bind, hz0, go_sem]
      unfold Oper.wp execOp
      simp only [ho, Sem.run_bind, Sem.run_pure, hrun, Result.andThen_ok]
      refine hK _ _ ?_
      refine wpList_plain hgd' fun K' hK' => ?_
      unfold Oper.wp execOp
      simp only [ho', hx, hy, Sem.run_bind, Sem.run_pure, run_storeAt_new w ty v.cells (cellsOf zs) (by rw [hq, size_cellsOf, hz]; simp [hi.2]) (by rw [hi.1, size_cellsOf, hz]) (oneCell_cellsOf zs), Result.andThen_ok]
      exact hK' _ _ h
end
end Go.Proofs.Qxb6612825aFmt.Big
