/-
  THE PROOF OF 'Rows.FnSCNOrderIsHeaderByteOrderSaid'.
-/
import Derived.Test.Qxb6612825aOrderWalk
import Derived.ShutString
import Derived.ChangeOld
import Derived.Below
namespace Go.Proofs.Qxb6612825a.fnSCNOrderIsHeaderByteOrder
open Go.ChangeShapes Go.WideShapes Go.ChangeAt Go.RowKit Go.Proofs.Qxb6612825a.Big
set_option linter.unusedVariables false

theorem own : ownKnob Try.prog.godebug = none := by kernel_rfl
theorem laidOut : laidOutB Try.prog = true := by kernel_rfl
theorem cells22 : Try.prog.cellsOf 22 = 8192 := by kernel_rfl
theorem cells5 : Try.prog.cellsOf 5 = 1 := by kernel_rfl
theorem depth2 : Try.prog.depth = (Try.prog.depth - 2) + 2 := by kernel_rfl

/-- The witness's array: all zero. -/
def zeros : List Int := List.replicate 8192 0
theorem zeros_length : zeros.length = 8192 := List.length_replicate
theorem zeros_wf : ∀ z ∈ zeros, (Lit.int .u8 z).wf = true := by intro z hz; rw [(List.mem_replicate.1 hz).2]; decide
theorem zeros_has : ∀ z ∈ zeros, IntKind.has .u8 z := by intro z hz; rw [(List.mem_replicate.1 hz).2]; unfold IntKind.has; decide

theorem wit (zs : List Int) (hz : zs.length = 8192) (hwf : ∀ z ∈ zs, (Lit.int .u8 z).wf = true) (hhas : ∀ z ∈ zs, IntKind.has .u8 z) (os : Os) (H : Type) (enc : TypeId × Value → H) : ∃ (w : World) (tape : Tape) (i : Input), w.os = os ∧ (w.forCall tape i).Shaped Try.checked.prog ∧ i.vars = [] ∧ Input.okWide Try.checked.prog (w.forCall tape i) .any w.heap.size 4 i ∧
      Rows.fnSCNOrderIsHeaderByteOrderSpec.pre6 enc Try.checked.prog Try.f4 [] false (w.forCall tape i).memory i.args ∧ ({ modest := false } : Assume).holds Try.checked.prog (lone (Frame.enter Try.checked.prog 4 i.args .normal) [] (w.forCall tape i)) := by
  refine witness (C := Try.checked) (H := H) (enc := enc) (fn := Try.f4) (s := Rows.fnSCNOrderIsHeaderByteOrderSpec) (apart := false) false #[.agg (cellsOf zs), .agg (cellsOf zs)] [.agg (lits zs), .agg (lits zs)]
    (by kernel_rfl) (by kernel_rfl) (by kernel_rfl) Try.func4 (by kernel_rfl) (by kernel_rfl) (by kernel_rfl) (by kernel_rfl) ?_ rfl ?_ ?_
  · intro w base j t v hp ha
    have hp' : (#[22, 22] : Array TypeId)[j]? = some t := by rw [← Try.params4]; exact hp
    match j, hp', ha with
    | 0, hp', ha =>
      simp at hp' ha; subst hp' ha
      exact okWide_mk Try.underlying22 Try.underlying5 cells22 depth2 zs hz hhas
    | 1, hp', ha =>
      simp at hp' ha; subst hp' ha
      exact okWide_mk Try.underlying22 Try.underlying5 cells22 depth2 zs hz hhas
    | j + 2, hp', ha => simp at hp'
  · intro w
    rw [Try.params4]
    exact trodAll_cons_mk (trod_mk Try.underlying22 Try.underlying5 cells5 cells22 zs hz hwf) (trodAll_mk1 (trod_mk Try.underlying22 Try.underlying5 cells5 cells22 zs hz hwf))
  · intro w hwh
    obtain ⟨before, hwh⟩ := hwh
    refine ⟨by kernel_rfl, _, _, before, hwh, ?_⟩
    have hvt : (OpenSpec.ofChange Rows.fnSCNOrderIsHeaderByteOrderSpec).bare.plain.varTypes Try.checked.prog = [] := rfl
    rw [hvt, Try.params4]
    show ((DataW.weights Try.prog 22 (.agg (Big.lits (H := H) zs)) ++ (DataW.weights Try.prog 22 (.agg (Big.lits (H := H) zs)) ++ [])).all (· ≤ reachBytes)) = true
    rw [weights_mk Try.underlying22]
    rfl

set_option maxRecDepth 100000 in
theorem lifted (os : Os) (started : os.Started) (H : Type) (enc : TypeId × Value → H) :
    ReturnsInHanded {} Try.checked os 4 .any (Rows.fnSCNOrderIsHeaderByteOrderSpec.pre6 enc Try.prog Try.f4 Rows.fnSCNOrderIsHeaderByteOrderRow.domain false) (Rows.fnSCNOrderIsHeaderByteOrderSpec.post enc Try.prog Try.f4 false true false false) := by
  refine returnsInHanded_of_change (C := Try.checked) own started (by kernel_rfl) Try.func4 (wit zeros zeros_length zeros_wf zeros_has os H enc) ?_
  intro W base args ds gs before hval0 hW hcnd _
  have hval : ∀ (j : Nat) t v, Try.f4.params[j]? = some t → args[j]? = some v → Value.okWide Try.prog W .any base t v := hval0
  have hW' := hW
  obtain ⟨p, q, hA0, hV, rfl, hfz, hnd⟩ := hW
  have hA : DataW.TrodAll enc Try.prog W 0 (fun _ => true) true Try.f4.params.toList args.toList ds p := hA0
  rw [Try.params4] at hA hval
  obtain ⟨v0, vs0, d0, ds0, p0, q0, hargs, rfl, rfl, h0, r0⟩ := trodAll_cons hA
  obtain ⟨v1, vs1, d1, ds1, p1, q1, rfl, rfl, rfl, h1, r1⟩ := trodAll_cons r0
  obtain ⟨rfl, rfl, rfl⟩ := trodAll_nil r1
  obtain rfl : args = #[v0, v1] := by cases args; simp_all
  obtain ⟨rfl, rfl⟩ := trodVars_none hV
  obtain ⟨cs0, rfl, _, _⟩ : ∃ cs, v0 = .agg cs ∧ cs.size = Try.prog.cellsOf 22 ∧ Row.okWide Try.prog W .any base 22 cs := by
    have := hval 0 22 v0 rfl rfl
    simpa [Value.okWide, Try.underlying22] using this
  have k0 := h0
  have lt0 : ∀ x ∈ p0, x.block < W.heap.size := by obtain ⟨m, hm⟩ := k0; exact DataW.trod_lt m _ _ _ hm
  obtain ⟨z0, rfl, l0, w0⟩ := opened Try.underlying22 Try.underlying5 cells5 cells22 h0
  obtain ⟨cs1, rfl, _, _⟩ : ∃ cs, v1 = .agg cs ∧ cs.size = Try.prog.cellsOf 22 ∧ Row.okWide Try.prog W .any base 22 cs := by
    have := hval 1 22 v1 rfl rfl
    simpa [Value.okWide, Try.underlying22] using this
  have k1 := h1
  have lt1 : ∀ x ∈ p1, x.block < W.heap.size := by obtain ⟨m, hm⟩ := k1; exact DataW.trod_lt m _ _ _ hm
  obtain ⟨z1, rfl, l1, w1⟩ := opened Try.underlying22 Try.underlying5 cells5 cells22 h1
  clear hA0 hval0
  refine (order_walk z0 z1 W l0 w0 l1 w1).mono fun e W' ⟨he, bel⟩ => ?_
  subst he
  exact ⟨_, rfl, _, _, _, [], _, [], hW', trodAll_mk1 (shut_bool Try.underlying4 _), (trodAll_cons_mk (Below.trod laidOut (by kernel_rfl) (of_decide_eq_true (by kernel_rfl)) k0 bel lt0) (trodAll_cons_mk (Below.trod laidOut (by kernel_rfl) (of_decide_eq_true (by kernel_rfl)) k1 bel lt1) trodAll_mk0)), rfl, bel.frame _, fun h => by cases h⟩

theorem over : Rows.fnSCNOrderIsHeaderByteOrderRow.holds Try.pinned (OpenSpec.ofChange Rows.fnSCNOrderIsHeaderByteOrderSpec) :=
  OpenClaim.holds_of_wide 4 Try.f4 rfl rfl rfl rfl rfl rfl rfl ⟨rfl, rfl, rfl, rfl, rfl⟩ rfl rfl rfl rfl rfl (by kernel_rfl) Try.func4 (by kernel_rfl)
    (of_decide_eq_true (by kernel_rfl)) (by unfold Func.isWrapper; first | (rw [if_pos (by decide +kernel)]; kernel_rfl) | (rw [if_neg (by decide +kernel)]; exact ⟨rfl, rfl⟩))
    (fun os started H enc _ => lifted os started H enc)

/-- THE STATEMENT -/
theorem proved : Rows.FnSCNOrderIsHeaderByteOrderSaid := over
end Go.Proofs.Qxb6612825a.fnSCNOrderIsHeaderByteOrder
