/-
  THE PROOF OF 'Rows.FnSetNodeLogsSeparatesMod16Said'.
-/
import Derived.Test.Qxb6612825aModWalk
import Derived.ShutString
import Derived.ChangeOld
import Derived.Below
namespace Go.Proofs.Qxb6612825a.fnSetNodeLogsSeparatesMod16
open Go.ChangeShapes Go.WideShapes Go.ChangeAt Go.RowKit Go.Proofs.Qxb6612825a.Big
set_option linter.unusedVariables false

theorem own : ownKnob Try.prog.godebug = none := by kernel_rfl
theorem laidOut : laidOutB Try.prog = true := by kernel_rfl
theorem cells22 : Try.prog.cellsOf 22 = 8192 := by kernel_rfl
theorem cells5 : Try.prog.cellsOf 5 = 1 := by kernel_rfl
theorem depth2 : Try.prog.depth = (Try.prog.depth - 2) + 2 := by kernel_rfl

/-- The witness's array: all zero. -/
def zeros : List Int := List.replicate 8192 0
theorem zeros_length : zeros.length = 8192 := List.length_replicate
theorem zeros_wf : ∀ z ∈ zeros, (Lit.int .u8 z).wf = true := by intro z hz; rw [(List.mem_replicate.1 hz).2]; decide
theorem zeros_has : ∀ z ∈ zeros, IntKind.has .u8 z := by intro z hz; rw [(List.mem_replicate.1 hz).2]; unfold IntKind.has; decide

theorem wit (zs : List Int) (hz : zs.length = 8192) (hwf : ∀ z ∈ zs, (Lit.int .u8 z).wf = true) (hhas : ∀ z ∈ zs, IntKind.has .u8 z) (os : Os) (H : Type) (enc : TypeId × Value → H) : ∃ (w : World) (tape : Tape) (i : Input), w.os = os ∧ (w.forCall tape i).Shaped Try.checked.prog ∧ i.vars = [] ∧ Input.okWide Try.checked.prog (w.forCall tape i) .any w.heap.size 6 i ∧
      Rows.fnSetNodeLogsSeparatesMod16Spec.pre6 enc Try.checked.prog Try.f6 [] false (w.forCall tape i).memory i.args ∧ ({ modest := false } : Assume).holds Try.checked.prog (lone (Frame.enter Try.checked.prog 6 i.args .normal) [] (w.forCall tape i)) := by
  refine witness (C := Try.checked) (H := H) (enc := enc) (fn := Try.f6) (s := Rows.fnSetNodeLogsSeparatesMod16Spec) (apart := false) false #[.agg (cellsOf zs), .int .i64 0, .int .i64 0] [.agg (lits zs), .lit (.int .i64 0), .lit (.int .i64 0)]
    (by kernel_rfl) (by kernel_rfl) (by kernel_rfl) Try.func6 (by kernel_rfl) (by kernel_rfl) (by kernel_rfl) (by kernel_rfl) ?_ rfl ?_ ?_
  · intro w base j t v hp ha
    have hp' : (#[22, 3, 3] : Array TypeId)[j]? = some t := by rw [← Try.params6]; exact hp
    match j, hp', ha with
    | 0, hp', ha =>
      simp at hp' ha; subst hp' ha
      exact okWide_mk Try.underlying22 Try.underlying5 cells22 depth2 zs hz hhas
    | 1, hp', ha =>
      simp at hp' ha; subst hp' ha
      exact okWide_u8 Try.underlying3 (by unfold IntKind.has; decide)
    | 2, hp', ha =>
      simp at hp' ha; subst hp' ha
      exact okWide_u8 Try.underlying3 (by unfold IntKind.has; decide)
    | j + 3, hp', ha => simp at hp'
  · intro w
    rw [Try.params6]
    exact trodAll_cons_mk (trod_mk Try.underlying22 Try.underlying5 cells5 cells22 zs hz hwf) (trodAll_cons_mk (shut_int Try.underlying3 (by decide)) (trodAll_mk1 (shut_int Try.underlying3 (by decide))))
  · intro w hwh
    obtain ⟨before, hwh⟩ := hwh
    refine ⟨by kernel_rfl, _, _, before, hwh, ?_⟩
    have hvt : (OpenSpec.ofChange Rows.fnSetNodeLogsSeparatesMod16Spec).bare.plain.varTypes Try.checked.prog = [] := rfl
    rw [hvt, Try.params6]
    show ((DataW.weights Try.prog 22 (.agg (Big.lits (H := H) zs)) ++ (DataW.weights Try.prog 3 (.lit (.int .i64 0) : DataW H) ++ (DataW.weights Try.prog 3 (.lit (.int .i64 0) : DataW H) ++ []))).all (· ≤ reachBytes)) = true
    rw [weights_mk Try.underlying22]
    simp [DataW.weights]

set_option maxRecDepth 100000 in
theorem lifted (os : Os) (started : os.Started) (H : Type) (enc : TypeId × Value → H) :
    ReturnsInHanded {} Try.checked os 6 .any (Rows.fnSetNodeLogsSeparatesMod16Spec.pre6 enc Try.prog Try.f6 Rows.fnSetNodeLogsSeparatesMod16Row.domain false) (Rows.fnSetNodeLogsSeparatesMod16Spec.post enc Try.prog Try.f6 false true false false) := by
  refine returnsInHanded_of_change (C := Try.checked) own started (by kernel_rfl) Try.func6 (wit zeros zeros_length zeros_wf zeros_has os H enc) ?_
  intro W base args ds gs before hval0 hW hcnd _
  have hval : ∀ (j : Nat) t v, Try.f6.params[j]? = some t → args[j]? = some v → Value.okWide Try.prog W .any base t v := hval0
  have hW' := hW
  obtain ⟨p, q, hA0, hV, rfl, hfz, hnd⟩ := hW
  have hA : DataW.TrodAll enc Try.prog W 0 (fun _ => true) true Try.f6.params.toList args.toList ds p := hA0
  rw [Try.params6] at hA hval
  obtain ⟨v0, vs0, d0, ds0, p0, q0, hargs, rfl, rfl, h0, r0⟩ := trodAll_cons hA
  obtain ⟨v1, vs1, d1, ds1, p1, q1, rfl, rfl, rfl, h1, r1⟩ := trodAll_cons r0
  obtain ⟨v2, vs2, d2, ds2, p2, q2, rfl, rfl, rfl, h2, r2⟩ := trodAll_cons r1
  obtain ⟨rfl, rfl, rfl⟩ := trodAll_nil r2
  obtain rfl : args = #[v0, v1, v2] := by cases args; simp_all
  obtain ⟨rfl, rfl⟩ := trodVars_none hV
  obtain ⟨cs0, rfl, _, _⟩ : ∃ cs, v0 = .agg cs ∧ cs.size = Try.prog.cellsOf 22 ∧ Row.okWide Try.prog W .any base 22 cs := by
    have := hval 0 22 v0 rfl rfl
    simpa [Value.okWide, Try.underlying22] using this
  have k0 := h0
  have lt0 : ∀ x ∈ p0, x.block < W.heap.size := by obtain ⟨m, hm⟩ := k0; exact DataW.trod_lt m _ _ _ hm
  obtain ⟨z0, rfl, l0, w0⟩ := opened Try.underlying22 Try.underlying5 cells5 cells22 h0
  obtain ⟨a1, rfl, rfl, rfl, w1⟩ := open_int Try.underlying3 (hval 1 3 v1 rfl rfl) h1
  obtain ⟨a2, rfl, rfl, rfl, w2⟩ := open_int Try.underlying3 (hval 2 3 v2 rfl rfl) h2
  clear hA0 hval0
  refine (mod_walk z0 a1 a2 W l0 w0).mono fun e W' ⟨he, bel⟩ => ?_
  subst he
  exact ⟨_, rfl, _, _, _, [], _, [], hW', trodAll_mk1 (shut_bool Try.underlying4 _), (trodAll_cons_mk (Below.trod laidOut (by kernel_rfl) (of_decide_eq_true (by kernel_rfl)) k0 bel lt0) (trodAll_cons_mk (shut_int Try.underlying3 w1) (trodAll_cons_mk (shut_int Try.underlying3 w2) trodAll_mk0))), rfl, bel.frame _, fun h => by cases h⟩

theorem over : Rows.fnSetNodeLogsSeparatesMod16Row.holds Try.pinned (OpenSpec.ofChange Rows.fnSetNodeLogsSeparatesMod16Spec) :=
  OpenClaim.holds_of_wide 6 Try.f6 rfl rfl rfl rfl rfl rfl rfl ⟨rfl, rfl, rfl, rfl, rfl⟩ rfl rfl rfl rfl rfl (by kernel_rfl) Try.func6 (by kernel_rfl)
    (of_decide_eq_true (by kernel_rfl)) (by unfold Func.isWrapper; first | (rw [if_pos (by decide +kernel)]; kernel_rfl) | (rw [if_neg (by decide +kernel)]; exact ⟨rfl, rfl⟩))
    (fun os started H enc _ => lifted os started H enc)

/-- THE STATEMENT -/
theorem proved : Rows.FnSetNodeLogsSeparatesMod16Said := over
end Go.Proofs.Qxb6612825a.fnSetNodeLogsSeparatesMod16
