/-
  THE PROOF OF 'Rows.FnRestoreMatchesModelToldSaid'.
-/
import Derived.Test.Qxb6612825aFmtTold
namespace Go.Proofs.Qxb6612825aFmt.fnRestoreMatchesModel
open Go.ChangeShapes Go.WideShapes Go.ChangeAt Go.RowKit Go.Proofs.Qxb6612825aFmt.Big
open Go.Extern.Stop Go.Stop Go.Extern
set_option linter.unusedVariables false

theorem wit (zs : List Int) (hz : zs.length = 8192) (hwf : ∀ z ∈ zs, (Lit.int .u8 z).wf = true) (hhas : ∀ z ∈ zs, IntKind.has .u8 z) (os : Os) (H : Type) (enc : TypeId × Value → H) (F : Stop.Interp) : ∃ (w : World) (tape : Tape) (i : Input), w.os = os ∧ (w.forCall tape i).Shaped Tryf.checked.prog ∧ i.vars = [] ∧ Input.okWide Tryf.checked.prog (w.forCall tape i) .any w.heap.size 3 i ∧
      (OpenSpec.ofChange Rows.fnRestoreMatchesModelSpec).preRow enc Tryf.checked.prog Tryf.f3 [] false [] (w.forCall tape i).memory i.args ∧ ({ modest := false } : Assume).holds Tryf.checked.prog (lone (Frame.enter Tryf.checked.prog 3 i.args .normal) [] (w.forCall tape i)) ∧ F.answers tape := by
  refine witnessTold (C := Tryf.checked) (H := H) (enc := enc) (fn := Tryf.f3) (s := Rows.fnRestoreMatchesModelSpec) (apart := false) false #[.agg (cellsOf zs), .int .i64 0, .slice none 0 0] [.agg (Big.lits zs), .lit (.int .i64 0), .nil]
    (by kernel_rfl) (by kernel_rfl) (by kernel_rfl) Tryf.func3 (by kernel_rfl) (by kernel_rfl) (by kernel_rfl) (by kernel_rfl) ?_ rfl ?_ ?_ F
  · intro w base j t v hp ha
    have hp' : (#[22, 3, 23] : Array TypeId)[j]? = some t := by rw [← Tryf.params3]; exact hp
    match j, hp', ha with
    | 0, hp', ha =>
      simp at hp' ha; subst hp' ha
      exact okWide_mk Tryf.underlying22 Tryf.underlying5 Tryf.cells22 Tryf.depth2 zs hz hhas
    | 1, hp', ha =>
      simp at hp' ha; subst hp' ha
      exact okWide_u8 Tryf.underlying3 (by unfold IntKind.has; decide)
    | 2, hp', ha =>
      simp at hp' ha; subst hp' ha
      exact okWide_nil23
    | j + 3, hp', ha => simp at hp'
  · intro w
    rw [Tryf.params3]
    exact trodAll_cons_mk (trod_mk Tryf.underlying22 Tryf.underlying5 Tryf.cells5 Tryf.cells22 zs hz hwf) (trodAll_cons_mk (shut_int Tryf.underlying3 (by decide)) (trodAll_mk1 trod_nil23))
  · intro w hwh
    obtain ⟨before, hwh⟩ := hwh
    refine ⟨by kernel_rfl, _, _, before, hwh, ?_⟩
    have hvt : (OpenSpec.ofChange Rows.fnRestoreMatchesModelSpec).bare.plain.varTypes Tryf.checked.prog = [] := rfl
    rw [hvt, Tryf.params3]
    show ((DataW.weights Tryf.prog 22 (.agg (Big.lits (H := H) zs)) ++ (DataW.weights Tryf.prog 3 (.lit (.int .i64 0) : DataW H) ++ (DataW.weights Tryf.prog 23 (.nil : DataW H) ++ []))).all (· ≤ reachBytes)) = true
    rw [weights_mk Tryf.underlying22]
    simp [DataW.weights]

set_option maxRecDepth 100000 in
theorem lifted (os : Os) (started : os.Started) (H : Type) (enc : TypeId × Value → H) :
    ReturnsInTold none {} Tryf.checked os 3 .any Input.okWide ((OpenSpec.ofChange Rows.fnRestoreMatchesModelSpec).preRow enc Tryf.prog Tryf.f3 [] false []) (fun F => ((OpenSpec.ofChange Rows.fnRestoreMatchesModelSpec).at F).post enc Tryf.prog Tryf.f3 false true false false) (aloneAtReturn Tryf.prog) nothingAlways := by
  refine returnsInTold_of_row (C := Tryf.checked) (s := OpenSpec.ofChange Rows.fnRestoreMatchesModelSpec) (by kernel_rfl) Tryf.own started (by kernel_rfl) Tryf.func3 (wit zeros zeros_length zeros_wf zeros_has os H enc) ?_
  intro F W base args ds gs before _ _ hval0 hW _ _ _ _ _
  have hval : ∀ (j : Nat) t v, Tryf.f3.params[j]? = some t → args[j]? = some v → Value.okWide Tryf.prog W .any base t v := hval0
  have hW' := hW
  obtain ⟨p, q, hA0, hV, rfl, hfz, hnd⟩ := hW
  have hA : DataW.TrodAll enc Tryf.prog W 0 (fun _ => true) true Tryf.f3.params.toList args.toList ds p := hA0
  rw [Tryf.params3] at hA hval
  obtain ⟨v0, vs0, d0, ds0, p0, q0, hargs, rfl, rfl, h0, r0⟩ := trodAll_cons hA
  obtain ⟨v1, vs1, d1, ds1, p1, q1, rfl, rfl, rfl, h1, r1⟩ := trodAll_cons r0
  obtain ⟨v2, vs2, d2, ds2, p2, q2, rfl, rfl, rfl, h2, r2⟩ := trodAll_cons r1
  obtain ⟨rfl, rfl, rfl⟩ := trodAll_nil r2
  obtain rfl : args = #[v0, v1, v2] := by cases args; simp_all
  obtain ⟨rfl, rfl⟩ := trodVars_none hV
  obtain ⟨cs0, rfl, _, _⟩ : ∃ cs, v0 = .agg cs ∧ cs.size = Tryf.prog.cellsOf 22 ∧ Row.okWide Tryf.prog W .any base 22 cs := by
    have := hval 0 22 v0 rfl rfl
    simpa [Value.okWide, Tryf.underlying22] using this
  have k0 := h0
  have k2 := h2
  have lt0 : ∀ x ∈ p0, x.block < W.heap.size := by obtain ⟨m, hm⟩ := k0; exact DataW.trod_lt m _ _ _ hm
  have lt2 : ∀ x ∈ p2, x.block < W.heap.size := by obtain ⟨m, hm⟩ := k2; exact DataW.trod_lt m _ _ _ hm
  obtain ⟨z0, rfl, l0, w0⟩ := opened Tryf.underlying22 Tryf.underlying5 Tryf.cells5 Tryf.cells22 h0
  obtain ⟨a1, rfl, rfl, rfl, w1⟩ := open_int Tryf.underlying3 (hval 1 3 v1 rfl rfl) h1
  obtain ⟨ra, rs, cap, rfl, hG⟩ := given_of (hval 2 23 v2 rfl rfl) h2
  clear hA0 hval0
  refine (model3 z0 a1 ra cap rs W ⟨l0, w0⟩ hG).mono fun e W' ⟨he, bel⟩ => ?_
  subst he
  exact ⟨_, rfl, _, _, _, [], _, [], hW', trodAll_mk1 (shut_bool Tryf.underlying4 _), (trodAll_cons_mk (Below.trod Tryf.laidOut (by kernel_rfl) (of_decide_eq_true (by kernel_rfl)) k0 bel lt0) (trodAll_cons_mk (shut_int Tryf.underlying3 w1) (trodAll_cons_mk (Below.trod Tryf.laidOut (by kernel_rfl) (of_decide_eq_true (by kernel_rfl)) k2 bel lt2) trodAll_mk0))), rfl, bel.frame _, fun h => by cases h⟩

/-- THE STATEMENT -/
theorem proved : Rows.FnRestoreMatchesModelToldSaid :=
  Claim7.holds_of_told_any 3 Tryf.f3 "fmt.Sprintf" [] [] _ _ _ (by kernel_rfl) rfl rfl rfl Tryf.laidOut (by kernel_rfl) rfl ⟨rfl, rfl, rfl, rfl, rfl, rfl, rfl⟩ rfl rfl (by kernel_rfl) (by kernel_rfl) Tryf.func3 (by kernel_rfl)
    (of_decide_eq_true (by kernel_rfl)) (of_decide_eq_true (by kernel_rfl)) Tryf.stops.symm rfl Tryf.stopKnobs.symm (by kernel_rfl)
    (by kernel_rfl) (by kernel_rfl) (by kernel_rfl) (by kernel_rfl) (by kernel_rfl) (by kernel_rfl) (by kernel_rfl) (by kernel_rfl) (by kernel_rfl) rfl (by kernel_rfl) rfl rfl
    rfl rfl
    rfl (by kernel_rfl) (by kernel_rfl) (by kernel_rfl) (by decide) (by kernel_rfl)
    (OpenClaim.moreEntering_of (by kernel_rfl) (by kernel_rfl) (by kernel_rfl) (by kernel_rfl) (by kernel_rfl) (by kernel_rfl) (by kernel_rfl) (by kernel_rfl) (by kernel_rfl) (by kernel_rfl))
    ⟨_, WideRow.started_initial, Tryf.quiet _⟩
    (fun os started _ H enc _ => lifted os started H enc)
end Go.Proofs.Qxb6612825aFmt.fnRestoreMatchesModel
