/-
  No cell of these rows narrows 'for every input' (looked for: loops, veiled, ifaces, maps, wideKeys, modest, calm, conditions, laid).
  DERIVED. THE GIVEN ROWS OF THIS SEAT. 2 by the template 'for every input the law returns true; each argument reads behind the call as it read before'; 0 by the template 'total and deterministic' (their statements: Qxb6612825aFmtTotals.lean).
  GIVEN WITH THE SEED: the statements are not yours to turn. If you find one false, say at which input.
  Laid BY PROGRAM, IN A SANDBOX (cutbox-rows.mjs): the forced cells as the released guide's own fill.sh prints them over the translation 0b43ed37fc80ad48… (all of the seat's roots in one cut). By AI agents, Wed Nov 11 2026. No macro, syntax, notation, axiom, sorry.
-/
import Derived.Test.Qxb6612825aFmtChecked
import GoSem.Claim
import GoSem.ClaimJoined
import GoSem.ClaimMapViews
import Derived.JoinedTies
import Derived.KernelRfl
namespace Go.Proofs.Qxb6612825aFmt
/- THE CELL 'sum', in the pinned program and in every row, IS THE sha256 OF THE DUMP (.gsa) THAT Qxb6612825aFmtProg.lean LOADS. Nothing in Lean hashes anything: it is a label: what it is worth is what the hold of that sum in a sandbox is worth. -/
noncomputable def Tryf.pinned : Pinned := { name := "qxb6612825afmt", sum := "0b43ed37fc80ad488c6829b1ede8d3d3acfbceb0d81db2fce41d79838aa4e4e6", checked := Tryf.checked }
namespace Rows
def none {H : Type} : Left H := { results := [], args := [] }

/-- 'zzlaws_internal_block_b1.FnRestoreMatchesModel': WHATEVER THE INPUT: true; the input reads as it did. -/
def fnRestoreMatchesModelSpec : ChangeSpec := { name := "fnRestoreMatchesModel", fn := fun _ => fun
  | [d1, d2, d3] => { results := [.lit (.bool true)], args := [d1, d2, d3] }
  | _ => none }
def fnRestoreMatchesModelRow : OpenClaim := { program := "qxb6612825afmt", sum := "0b43ed37fc80ad488c6829b1ede8d3d3acfbceb0d81db2fce41d79838aa4e4e6", func := "example.com/palimpsest/palimpsest/zzlaws_internal_block_b1.FnRestoreMatchesModel", spec := "fnRestoreMatchesModel", stops := ["fmt.Sprintf"], inPlace := ["fmt.Sprintf"], unfollowed := true, recurses := true, named := ["encoding/binary.BigEndian"], apart := false }
/-- NO THEOREM (fmt's text is open here; it may be false): for the released tool's asking of the row's closed facts alone. THE STATEMENT IS 'FnRestoreMatchesModelToldSaid' (Qxb6612825aFmtCards.lean). -/
def FnRestoreMatchesModelFormAsk : Prop := fnRestoreMatchesModelRow.holds Tryf.pinned (OpenSpec.ofChange fnRestoreMatchesModelSpec)

/-- ITS FALSE NEIGHBOUR: 'it returns false'. Refute it at one input. -/
def fnRestoreMatchesModelWrong : ChangeSpec := { name := "fnRestoreMatchesModel", fn := fun _ => fun
  | [d1, d2, d3] => { results := [.lit (.bool false)], args := [d1, d2, d3] }
  | _ => none }
def FnRestoreMatchesModelWrongFormAsk : Prop := fnRestoreMatchesModelRow.holds Tryf.pinned (OpenSpec.ofChange fnRestoreMatchesModelWrong)

/-- 'zzlaws_internal_block_b1.FnRestoreOrderFree': WHATEVER THE INPUT: true; the input reads as it did. -/
def fnRestoreOrderFreeSpec : ChangeSpec := { name := "fnRestoreOrderFree", fn := fun _ => fun
  | [d1, d2, d3, d4, d5] => { results := [.lit (.bool true)], args := [d1, d2, d3, d4, d5] }
  | _ => none }
def fnRestoreOrderFreeRow : OpenClaim := { program := "qxb6612825afmt", sum := "0b43ed37fc80ad488c6829b1ede8d3d3acfbceb0d81db2fce41d79838aa4e4e6", func := "example.com/palimpsest/palimpsest/zzlaws_internal_block_b1.FnRestoreOrderFree", spec := "fnRestoreOrderFree", stops := ["fmt.Sprintf"], inPlace := ["fmt.Sprintf"], unfollowed := true, recurses := true, named := ["encoding/binary.BigEndian"], apart := false }
/-- NO THEOREM (fmt's text is open here; it may be false): for the released tool's asking of the row's closed facts alone. THE STATEMENT IS 'FnRestoreOrderFreeToldSaid' (Qxb6612825aFmtCards.lean). -/
def FnRestoreOrderFreeFormAsk : Prop := fnRestoreOrderFreeRow.holds Tryf.pinned (OpenSpec.ofChange fnRestoreOrderFreeSpec)

/-- ITS FALSE NEIGHBOUR: 'it returns false'. Refute it at one input. -/
def fnRestoreOrderFreeWrong : ChangeSpec := { name := "fnRestoreOrderFree", fn := fun _ => fun
  | [d1, d2, d3, d4, d5] => { results := [.lit (.bool false)], args := [d1, d2, d3, d4, d5] }
  | _ => none }
def FnRestoreOrderFreeWrongFormAsk : Prop := fnRestoreOrderFreeRow.holds Tryf.pinned (OpenSpec.ofChange fnRestoreOrderFreeWrong)

end Rows
end Go.Proofs.Qxb6612825aFmt
