/-
  No cell of these rows narrows 'for every input' (looked for: loops, veiled, ifaces, maps, wideKeys, modest, calm, conditions, laid).
  DERIVED. THE GIVEN ROWS OF THIS SEAT. 3 by the template 'for every input the law returns true; each argument reads behind the call as it read before'; 0 by the template 'total and deterministic' (their statements: Qxb6616283aFmtTotals.lean).
  GIVEN WITH THE SEED: the statements are not yours to turn. If you find one false, say at which input.
  Laid BY PROGRAM, IN A SANDBOX (cutbox-rows.mjs): the forced cells as the released guide's own fill.sh prints them over the translation 2847f356e1c3c33e… (all of the seat's roots in one cut). By AI agents, Wed Nov 11 2026. No macro, syntax, notation, axiom, sorry.
-/
import Derived.Test.Qxb6616283aFmtChecked
import GoSem.Claim
import GoSem.ClaimJoined
import GoSem.ClaimMapViews
import Derived.JoinedTies
import Derived.KernelRfl
namespace Go.Proofs.Qxb6616283aFmt
/- THE CELL 'sum', in the pinned program and in every row, IS THE sha256 OF THE DUMP (.gsa) THAT Qxb6616283aFmtProg.lean LOADS. Nothing in Lean hashes anything: it is a label: what it is worth is what the hold of that sum in a sandbox is worth. -/
noncomputable def Tryf.pinned : Pinned := { name := "qxb6616283afmt", sum := "2847f356e1c3c33e200cb59ac2e9de5543f1a1884d34ecc31f6cc8702af42cf0", checked := Tryf.checked }
namespace Rows
def none {H : Type} : Left H := { results := [], args := [] }

/-- 'zzlaws_internal_document_b1.FnCloneLeavesMakesEveryLeafX': WHATEVER THE INPUT: true; the input reads as it did. -/
def fnCloneLeavesMakesEveryLeafXSpec : ChangeSpec := { name := "fnCloneLeavesMakesEveryLeafX", fn := fun _ => fun
  | [d1, d2, d3] => { results := [.lit (.bool true)], args := [d1, d2, d3] }
  | _ => none }
def fnCloneLeavesMakesEveryLeafXRow : OpenClaim := { program := "qxb6616283afmt", sum := "2847f356e1c3c33e200cb59ac2e9de5543f1a1884d34ecc31f6cc8702af42cf0", func := "example.com/portcullis/portcullis/zzlaws_internal_document_b1.FnCloneLeavesMakesEveryLeafX", spec := "fnCloneLeavesMakesEveryLeafX", stops := ["fmt.errorf"], inPlace := ["fmt.errorf"], unfollowed := true, recurses := true, apart := false }
/-- NO THEOREM (fmt's text is open here; it may be false): for the released tool's asking of the row's closed facts alone. THE STATEMENT IS 'FnCloneLeavesMakesEveryLeafXToldSaid' (Qxb6616283aFmtCards.lean). -/
def FnCloneLeavesMakesEveryLeafXFormAsk : Prop := fnCloneLeavesMakesEveryLeafXRow.holds Tryf.pinned (OpenSpec.ofChange fnCloneLeavesMakesEveryLeafXSpec)

/-- ITS FALSE NEIGHBOUR: 'it returns false'. Refute it at one input. -/
def fnCloneLeavesMakesEveryLeafXWrong : ChangeSpec := { name := "fnCloneLeavesMakesEveryLeafX", fn := fun _ => fun
  | [d1, d2, d3] => { results := [.lit (.bool false)], args := [d1, d2, d3] }
  | _ => none }
def FnCloneLeavesMakesEveryLeafXWrongFormAsk : Prop := fnCloneLeavesMakesEveryLeafXRow.holds Tryf.pinned (OpenSpec.ofChange fnCloneLeavesMakesEveryLeafXWrong)

/-- 'zzlaws_internal_document_b1.FnCloneLeavesCopyIsDeep': WHATEVER THE INPUT: true; the input reads as it did. -/
def fnCloneLeavesCopyIsDeepSpec : ChangeSpec := { name := "fnCloneLeavesCopyIsDeep", fn := fun _ => fun
  | [d1, d2, d3, d4, d5] => { results := [.lit (.bool true)], args := [d1, d2, d3, d4, d5] }
  | _ => none }
def fnCloneLeavesCopyIsDeepRow : OpenClaim := { program := "qxb6616283afmt", sum := "2847f356e1c3c33e200cb59ac2e9de5543f1a1884d34ecc31f6cc8702af42cf0", func := "example.com/portcullis/portcullis/zzlaws_internal_document_b1.FnCloneLeavesCopyIsDeep", spec := "fnCloneLeavesCopyIsDeep", stops := ["fmt.errorf"], inPlace := ["fmt.errorf"], unfollowed := true, recurses := true, apart := false }
/-- NO THEOREM (fmt's text is open here; it may be false): for the released tool's asking of the row's closed facts alone. THE STATEMENT IS 'FnCloneLeavesCopyIsDeepToldSaid' (Qxb6616283aFmtCards.lean). -/
def FnCloneLeavesCopyIsDeepFormAsk : Prop := fnCloneLeavesCopyIsDeepRow.holds Tryf.pinned (OpenSpec.ofChange fnCloneLeavesCopyIsDeepSpec)

/-- ITS FALSE NEIGHBOUR: 'it returns false'. Refute it at one input. -/
def fnCloneLeavesCopyIsDeepWrong : ChangeSpec := { name := "fnCloneLeavesCopyIsDeep", fn := fun _ => fun
  | [d1, d2, d3, d4, d5] => { results := [.lit (.bool false)], args := [d1, d2, d3, d4, d5] }
  | _ => none }
def FnCloneLeavesCopyIsDeepWrongFormAsk : Prop := fnCloneLeavesCopyIsDeepRow.holds Tryf.pinned (OpenSpec.ofChange fnCloneLeavesCopyIsDeepWrong)

/-- 'zzlaws_internal_document_b1.FnRequiredMappingReadsTheLabels': WHATEVER THE INPUT: true; the input reads as it did. -/
def fnRequiredMappingReadsTheLabelsSpec : ChangeSpec := { name := "fnRequiredMappingReadsTheLabels", fn := fun _ => fun
  | [d1, d2, d3] => { results := [.lit (.bool true)], args := [d1, d2, d3] }
  | _ => none }
def fnRequiredMappingReadsTheLabelsRow : OpenClaim := { program := "qxb6616283afmt", sum := "2847f356e1c3c33e200cb59ac2e9de5543f1a1884d34ecc31f6cc8702af42cf0", func := "example.com/portcullis/portcullis/zzlaws_internal_document_b1.FnRequiredMappingReadsTheLabels", spec := "fnRequiredMappingReadsTheLabels", stops := ["fmt.errorf"], inPlace := ["fmt.errorf"], apart := false }
/-- NO THEOREM (fmt's text is open here; it may be false): for the released tool's asking of the row's closed facts alone. THE STATEMENT IS 'FnRequiredMappingReadsTheLabelsToldSaid' (Qxb6616283aFmtCards.lean). -/
def FnRequiredMappingReadsTheLabelsFormAsk : Prop := fnRequiredMappingReadsTheLabelsRow.holds Tryf.pinned (OpenSpec.ofChange fnRequiredMappingReadsTheLabelsSpec)

/-- ITS FALSE NEIGHBOUR: 'it returns false'. Refute it at one input. -/
def fnRequiredMappingReadsTheLabelsWrong : ChangeSpec := { name := "fnRequiredMappingReadsTheLabels", fn := fun _ => fun
  | [d1, d2, d3] => { results := [.lit (.bool false)], args := [d1, d2, d3] }
  | _ => none }
def FnRequiredMappingReadsTheLabelsWrongFormAsk : Prop := fnRequiredMappingReadsTheLabelsRow.holds Tryf.pinned (OpenSpec.ofChange fnRequiredMappingReadsTheLabelsWrong)

end Rows
end Go.Proofs.Qxb6616283aFmt
