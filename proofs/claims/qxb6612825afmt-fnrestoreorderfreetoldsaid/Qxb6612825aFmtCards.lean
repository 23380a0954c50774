/-
  DERIVED. GIVEN WITH THE SEED: THE CARDS: each row of Qxb6612825aFmtRows.lean that lists a variable, with what it lists TIED to the program's text (the seventh form; the later family's looks); each row that meets fmt, with fmt's text TOLD by the authors' own Lean function (tested against real Go, not proved from fmt's source: count such statements apart). THE CARD IS WHAT COUNTS. Prove the row's statement (the work); the ties are given (Qxb6612825aFmtTie.lean); close each card by the builder's one call (the guide's Derived/Test/ToyasCard.lean, 'card_holds'). Laid BY PROGRAM, IN A SANDBOX (cutbox-door.mjs). By AI agents, Wed Nov 11 2026. No macro, syntax, notation, axiom, sorry.
-/
import Derived.Test.Qxb6612825aFmtRows
import GoSem.ClaimSeven
namespace Go.Proofs.Qxb6612825aFmt
namespace Rows

/-- THE TOLD CARD OF 'zzlaws_internal_block_b1.FnRestoreMatchesModel'. -/
def fnRestoreMatchesModelCard : Claim7 := { stood := { row := fnRestoreMatchesModelRow, standIns := [], harness := (true, "4a2810a2e67ae59ae5d1b208a85ab12d6a666215bcb3d229addb5475ff940f62"), looks := false }, told := true, goes := false }
def FnRestoreMatchesModelToldSaid : Prop := Claim7.holds Tryf.pinned (.plain (OpenSpec.ofChange fnRestoreMatchesModelSpec)) fnRestoreMatchesModelCard
/-- ITS FALSE NEIGHBOUR. Refute it at one input. -/
def FnRestoreMatchesModelToldWrongFalsely : Prop := Claim7.holds Tryf.pinned (.plain (OpenSpec.ofChange fnRestoreMatchesModelWrong)) fnRestoreMatchesModelCard

/-- THE TOLD CARD OF 'zzlaws_internal_block_b1.FnRestoreOrderFree'. -/
def fnRestoreOrderFreeCard : Claim7 := { stood := { row := fnRestoreOrderFreeRow, standIns := [], harness := (true, "4a2810a2e67ae59ae5d1b208a85ab12d6a666215bcb3d229addb5475ff940f62"), looks := false }, told := true, goes := false }
def FnRestoreOrderFreeToldSaid : Prop := Claim7.holds Tryf.pinned (.plain (OpenSpec.ofChange fnRestoreOrderFreeSpec)) fnRestoreOrderFreeCard
/-- ITS FALSE NEIGHBOUR. Refute it at one input. -/
def FnRestoreOrderFreeToldWrongFalsely : Prop := Claim7.holds Tryf.pinned (.plain (OpenSpec.ofChange fnRestoreOrderFreeWrong)) fnRestoreOrderFreeCard
end Rows
end Go.Proofs.Qxb6612825aFmt
