/-
  No cell of these rows narrows 'for every input' (looked for: loops, veiled, ifaces, maps, wideKeys, modest, calm, conditions, laid).
  DERIVED. THE GIVEN ROWS OF THIS SEAT. 4 by the template 'for every input the law returns true; each argument reads behind the call as it read before'; 0 by the template 'total and deterministic' (their statements: Qxb6616288aTotals.lean).
  GIVEN WITH THE SEED: the statements are not yours to turn. If you find one false, say at which input.
  Laid BY PROGRAM, IN A SANDBOX (cutbox-rows.mjs): the forced cells as the released guide's own fill.sh prints them over the translation 95f22f80bc7f798d… (all of the seat's roots in one cut). By AI agents, Wed Nov 11 2026. No macro, syntax, notation, axiom, sorry.
-/
import Derived.Test.Qxb6616288aChecked
import GoSem.Claim
import GoSem.ClaimJoined
import GoSem.ClaimMapViews
import Derived.JoinedTies
import Derived.KernelRfl
namespace Go.Proofs.Qxb6616288a
/- THE CELL 'sum', in the pinned program and in every row, IS THE sha256 OF THE DUMP (.gsa) THAT Qxb6616288aProg.lean LOADS. Nothing in Lean hashes anything: it is a label: what it is worth is what the hold of that sum in a sandbox is worth. -/
noncomputable def Try.pinned : Pinned := { name := "qxb6616288a", sum := "95f22f80bc7f798d0d9d4a8bf124711c2b9ede65adcfd4a06348e82429df0d1f", checked := Try.checked }
namespace Rows
def none {H : Type} : Left H := { results := [], args := [] }

/-- 'zzlaws_root_b1.FnSlotOfAgreesWithLinearSearch': WHATEVER THE INPUT: true; the input reads as it did. -/
def fnSlotOfAgreesWithLinearSearchSpec : ChangeSpec := { name := "fnSlotOfAgreesWithLinearSearch", fn := fun _ => fun
  | [d1, d2, d3] => { results := [.lit (.bool true)], args := [d1, d2, d3] }
  | _ => none }
def fnSlotOfAgreesWithLinearSearchRow : OpenClaim := { program := "qxb6616288a", sum := "95f22f80bc7f798d0d9d4a8bf124711c2b9ede65adcfd4a06348e82429df0d1f", func := "example.com/ringhold/ringhold/zzlaws_root_b1.FnSlotOfAgreesWithLinearSearch", spec := "fnSlotOfAgreesWithLinearSearch", named := ["encoding/binary.LittleEndian"], apart := false }
def FnSlotOfAgreesWithLinearSearchSaid : Prop := fnSlotOfAgreesWithLinearSearchRow.holds Try.pinned (OpenSpec.ofChange fnSlotOfAgreesWithLinearSearchSpec)

/-- ITS FALSE NEIGHBOUR: 'it returns false'. Refute it at one input. -/
def fnSlotOfAgreesWithLinearSearchWrong : ChangeSpec := { name := "fnSlotOfAgreesWithLinearSearch", fn := fun _ => fun
  | [d1, d2, d3] => { results := [.lit (.bool false)], args := [d1, d2, d3] }
  | _ => none }
def FnSlotOfAgreesWithLinearSearchWrongFalsely : Prop := fnSlotOfAgreesWithLinearSearchRow.holds Try.pinned (OpenSpec.ofChange fnSlotOfAgreesWithLinearSearchWrong)

/-- 'zzlaws_root_b1.FnLinkThenSlotOfFindsIt': WHATEVER THE INPUT: true; the input reads as it did. -/
def fnLinkThenSlotOfFindsItSpec : ChangeSpec := { name := "fnLinkThenSlotOfFindsIt", fn := fun _ => fun
  | [d1, d2, d3, d4] => { results := [.lit (.bool true)], args := [d1, d2, d3, d4] }
  | _ => none }
def fnLinkThenSlotOfFindsItRow : OpenClaim := { program := "qxb6616288a", sum := "95f22f80bc7f798d0d9d4a8bf124711c2b9ede65adcfd4a06348e82429df0d1f", func := "example.com/ringhold/ringhold/zzlaws_root_b1.FnLinkThenSlotOfFindsIt", spec := "fnLinkThenSlotOfFindsIt", named := ["encoding/binary.LittleEndian"], apart := false }
def FnLinkThenSlotOfFindsItSaid : Prop := fnLinkThenSlotOfFindsItRow.holds Try.pinned (OpenSpec.ofChange fnLinkThenSlotOfFindsItSpec)

/-- ITS FALSE NEIGHBOUR: 'it returns false'. Refute it at one input. -/
def fnLinkThenSlotOfFindsItWrong : ChangeSpec := { name := "fnLinkThenSlotOfFindsIt", fn := fun _ => fun
  | [d1, d2, d3, d4] => { results := [.lit (.bool false)], args := [d1, d2, d3, d4] }
  | _ => none }
def FnLinkThenSlotOfFindsItWrongFalsely : Prop := fnLinkThenSlotOfFindsItRow.holds Try.pinned (OpenSpec.ofChange fnLinkThenSlotOfFindsItWrong)

/-- 'zzlaws_root_b1.FnLinkScriptKeepsEveryRecordFindable': WHATEVER THE INPUT: true; the input reads as it did. -/
def fnLinkScriptKeepsEveryRecordFindableSpec : ChangeSpec := { name := "fnLinkScriptKeepsEveryRecordFindable", fn := fun _ => fun
  | [d1, d2, d3, d4, d5] => { results := [.lit (.bool true)], args := [d1, d2, d3, d4, d5] }
  | _ => none }
def fnLinkScriptKeepsEveryRecordFindableRow : OpenClaim := { program := "qxb6616288a", sum := "95f22f80bc7f798d0d9d4a8bf124711c2b9ede65adcfd4a06348e82429df0d1f", func := "example.com/ringhold/ringhold/zzlaws_root_b1.FnLinkScriptKeepsEveryRecordFindable", spec := "fnLinkScriptKeepsEveryRecordFindable", named := ["encoding/binary.LittleEndian"], apart := false }
def FnLinkScriptKeepsEveryRecordFindableSaid : Prop := fnLinkScriptKeepsEveryRecordFindableRow.holds Try.pinned (OpenSpec.ofChange fnLinkScriptKeepsEveryRecordFindableSpec)

/-- ITS FALSE NEIGHBOUR: 'it returns false'. Refute it at one input. -/
def fnLinkScriptKeepsEveryRecordFindableWrong : ChangeSpec := { name := "fnLinkScriptKeepsEveryRecordFindable", fn := fun _ => fun
  | [d1, d2, d3, d4, d5] => { results := [.lit (.bool false)], args := [d1, d2, d3, d4, d5] }
  | _ => none }
def FnLinkScriptKeepsEveryRecordFindableWrongFalsely : Prop := fnLinkScriptKeepsEveryRecordFindableRow.holds Try.pinned (OpenSpec.ofChange fnLinkScriptKeepsEveryRecordFindableWrong)

/-- 'zzlaws_root_b1.FnWrapKeepsRecordsInUseAndRestartsAtZero': WHATEVER THE INPUT: true; the input reads as it did. -/
def fnWrapKeepsRecordsInUseAndRestartsAtZeroSpec : ChangeSpec := { name := "fnWrapKeepsRecordsInUseAndRestartsAtZero", fn := fun _ => fun
  | [d1, d2, d3, d4, d5] => { results := [.lit (.bool true)], args := [d1, d2, d3, d4, d5] }
  | _ => none }
def fnWrapKeepsRecordsInUseAndRestartsAtZeroRow : OpenClaim := { program := "qxb6616288a", sum := "95f22f80bc7f798d0d9d4a8bf124711c2b9ede65adcfd4a06348e82429df0d1f", func := "example.com/ringhold/ringhold/zzlaws_root_b1.FnWrapKeepsRecordsInUseAndRestartsAtZero", spec := "fnWrapKeepsRecordsInUseAndRestartsAtZero", apart := false }
def FnWrapKeepsRecordsInUseAndRestartsAtZeroSaid : Prop := fnWrapKeepsRecordsInUseAndRestartsAtZeroRow.holds Try.pinned (OpenSpec.ofChange fnWrapKeepsRecordsInUseAndRestartsAtZeroSpec)

/-- ITS FALSE NEIGHBOUR: 'it returns false'. Refute it at one input. -/
def fnWrapKeepsRecordsInUseAndRestartsAtZeroWrong : ChangeSpec := { name := "fnWrapKeepsRecordsInUseAndRestartsAtZero", fn := fun _ => fun
  | [d1, d2, d3, d4, d5] => { results := [.lit (.bool false)], args := [d1, d2, d3, d4, d5] }
  | _ => none }
def FnWrapKeepsRecordsInUseAndRestartsAtZeroWrongFalsely : Prop := fnWrapKeepsRecordsInUseAndRestartsAtZeroRow.holds Try.pinned (OpenSpec.ofChange fnWrapKeepsRecordsInUseAndRestartsAtZeroWrong)

end Rows
end Go.Proofs.Qxb6616288a
