/-
  No cell of these rows narrows 'for every input' (looked for: loops, veiled, ifaces, maps, wideKeys, modest, calm, conditions, laid).
  DERIVED. THE GIVEN ROWS OF THIS SEAT. 4 by the template 'for every input the law returns true; each argument reads behind the call as it read before'; 0 by the template 'total and deterministic' (their statements: Qxb6612825aTotals.lean).
  GIVEN WITH THE SEED: the statements are not yours to turn. If you find one false, say at which input.
  Laid BY PROGRAM, IN A SANDBOX (cutbox-rows.mjs): the forced cells as the released guide's own fill.sh prints them over the translation 985778ea62c830d6… (all of the seat's roots in one cut). By AI agents, Wed Nov 11 2026. No macro, syntax, notation, axiom, sorry.
-/
import Derived.Test.Qxb6612825aChecked
import GoSem.Claim
import GoSem.ClaimJoined
import GoSem.ClaimMapViews
import Derived.JoinedTies
import Derived.KernelRfl
namespace Go.Proofs.Qxb6612825a
/- THE CELL 'sum', in the pinned program and in every row, IS THE sha256 OF THE DUMP (.gsa) THAT Qxb6612825aProg.lean LOADS. Nothing in Lean hashes anything: it is a label: what it is worth is what the hold of that sum in a sandbox is worth. -/
noncomputable def Try.pinned : Pinned := { name := "qxb6612825a", sum := "985778ea62c830d6b07eae293a031085d0f1dcb8d4d2a997a6c2358fb6945644", checked := Try.checked }
namespace Rows
def none {H : Type} : Left H := { results := [], args := [] }

/-- 'zzlaws_internal_block_b1.FnSCNShiftInLowByte': WHATEVER THE INPUT: true; the input reads as it did. -/
def fnSCNShiftInLowByteSpec : ChangeSpec := { name := "fnSCNShiftInLowByte", fn := fun _ => fun
  | [d1, d2] => { results := [.lit (.bool true)], args := [d1, d2] }
  | _ => none }
def fnSCNShiftInLowByteRow : OpenClaim := { program := "qxb6612825a", sum := "985778ea62c830d6b07eae293a031085d0f1dcb8d4d2a997a6c2358fb6945644", func := "example.com/palimpsest/palimpsest/zzlaws_internal_block_b1.FnSCNShiftInLowByte", spec := "fnSCNShiftInLowByte", named := ["encoding/binary.BigEndian"], apart := false }
def FnSCNShiftInLowByteSaid : Prop := fnSCNShiftInLowByteRow.holds Try.pinned (OpenSpec.ofChange fnSCNShiftInLowByteSpec)

/-- ITS FALSE NEIGHBOUR: 'it returns false'. Refute it at one input. -/
def fnSCNShiftInLowByteWrong : ChangeSpec := { name := "fnSCNShiftInLowByte", fn := fun _ => fun
  | [d1, d2] => { results := [.lit (.bool false)], args := [d1, d2] }
  | _ => none }
def FnSCNShiftInLowByteWrongFalsely : Prop := fnSCNShiftInLowByteRow.holds Try.pinned (OpenSpec.ofChange fnSCNShiftInLowByteWrong)

/-- 'zzlaws_internal_block_b1.FnSCNOrderIsHeaderByteOrder': WHATEVER THE INPUT: true; the input reads as it did. -/
def fnSCNOrderIsHeaderByteOrderSpec : ChangeSpec := { name := "fnSCNOrderIsHeaderByteOrder", fn := fun _ => fun
  | [d1, d2] => { results := [.lit (.bool true)], args := [d1, d2] }
  | _ => none }
def fnSCNOrderIsHeaderByteOrderRow : OpenClaim := { program := "qxb6612825a", sum := "985778ea62c830d6b07eae293a031085d0f1dcb8d4d2a997a6c2358fb6945644", func := "example.com/palimpsest/palimpsest/zzlaws_internal_block_b1.FnSCNOrderIsHeaderByteOrder", spec := "fnSCNOrderIsHeaderByteOrder", named := ["encoding/binary.BigEndian"], apart := false }
def FnSCNOrderIsHeaderByteOrderSaid : Prop := fnSCNOrderIsHeaderByteOrderRow.holds Try.pinned (OpenSpec.ofChange fnSCNOrderIsHeaderByteOrderSpec)

/-- ITS FALSE NEIGHBOUR: 'it returns false'. Refute it at one input. -/
def fnSCNOrderIsHeaderByteOrderWrong : ChangeSpec := { name := "fnSCNOrderIsHeaderByteOrder", fn := fun _ => fun
  | [d1, d2] => { results := [.lit (.bool false)], args := [d1, d2] }
  | _ => none }
def FnSCNOrderIsHeaderByteOrderWrongFalsely : Prop := fnSCNOrderIsHeaderByteOrderRow.holds Try.pinned (OpenSpec.ofChange fnSCNOrderIsHeaderByteOrderWrong)

/-- 'zzlaws_internal_block_b1.FnSetNodeLogsLastWriteWins': WHATEVER THE INPUT: true; the input reads as it did. -/
def fnSetNodeLogsLastWriteWinsSpec : ChangeSpec := { name := "fnSetNodeLogsLastWriteWins", fn := fun _ => fun
  | [d1, d2, d3] => { results := [.lit (.bool true)], args := [d1, d2, d3] }
  | _ => none }
def fnSetNodeLogsLastWriteWinsRow : OpenClaim := { program := "qxb6612825a", sum := "985778ea62c830d6b07eae293a031085d0f1dcb8d4d2a997a6c2358fb6945644", func := "example.com/palimpsest/palimpsest/zzlaws_internal_block_b1.FnSetNodeLogsLastWriteWins", spec := "fnSetNodeLogsLastWriteWins", named := ["encoding/binary.BigEndian"], apart := false }
def FnSetNodeLogsLastWriteWinsSaid : Prop := fnSetNodeLogsLastWriteWinsRow.holds Try.pinned (OpenSpec.ofChange fnSetNodeLogsLastWriteWinsSpec)

/-- ITS FALSE NEIGHBOUR: 'it returns false'. Refute it at one input. -/
def fnSetNodeLogsLastWriteWinsWrong : ChangeSpec := { name := "fnSetNodeLogsLastWriteWins", fn := fun _ => fun
  | [d1, d2, d3] => { results := [.lit (.bool false)], args := [d1, d2, d3] }
  | _ => none }
def FnSetNodeLogsLastWriteWinsWrongFalsely : Prop := fnSetNodeLogsLastWriteWinsRow.holds Try.pinned (OpenSpec.ofChange fnSetNodeLogsLastWriteWinsWrong)

/-- 'zzlaws_internal_block_b1.FnSetNodeLogsSeparatesMod16': WHATEVER THE INPUT: true; the input reads as it did. -/
def fnSetNodeLogsSeparatesMod16Spec : ChangeSpec := { name := "fnSetNodeLogsSeparatesMod16", fn := fun _ => fun
  | [d1, d2, d3] => { results := [.lit (.bool true)], args := [d1, d2, d3] }
  | _ => none }
def fnSetNodeLogsSeparatesMod16Row : OpenClaim := { program := "qxb6612825a", sum := "985778ea62c830d6b07eae293a031085d0f1dcb8d4d2a997a6c2358fb6945644", func := "example.com/palimpsest/palimpsest/zzlaws_internal_block_b1.FnSetNodeLogsSeparatesMod16", spec := "fnSetNodeLogsSeparatesMod16", named := ["encoding/binary.BigEndian"], apart := false }
def FnSetNodeLogsSeparatesMod16Said : Prop := fnSetNodeLogsSeparatesMod16Row.holds Try.pinned (OpenSpec.ofChange fnSetNodeLogsSeparatesMod16Spec)

/-- ITS FALSE NEIGHBOUR: 'it returns false'. Refute it at one input. -/
def fnSetNodeLogsSeparatesMod16Wrong : ChangeSpec := { name := "fnSetNodeLogsSeparatesMod16", fn := fun _ => fun
  | [d1, d2, d3] => { results := [.lit (.bool false)], args := [d1, d2, d3] }
  | _ => none }
def FnSetNodeLogsSeparatesMod16WrongFalsely : Prop := fnSetNodeLogsSeparatesMod16Row.holds Try.pinned (OpenSpec.ofChange fnSetNodeLogsSeparatesMod16Wrong)

end Rows
end Go.Proofs.Qxb6612825a
