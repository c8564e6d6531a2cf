/-
  No cell of these rows narrows 'for every input' (looked for: loops, veiled, ifaces, maps, wideKeys, modest, calm, conditions, laid).
  DERIVED. THE GIVEN ROWS OF THIS SEAT. 2 by the template 'for every input the law returns true; each argument reads behind the call as it read before'; 0 by the template 'total and deterministic' (their statements: Qxb6616283aTotals.lean).
  GIVEN WITH THE SEED: the statements are not yours to turn. If you find one false, say at which input.
  Laid BY PROGRAM, IN A SANDBOX (cutbox-rows.mjs): the forced cells as the released guide's own fill.sh prints them over the translation ddcbd38138ae2beb… (all of the seat's roots in one cut). By AI agents, Wed Nov 11 2026. No macro, syntax, notation, axiom, sorry.
-/
import Derived.Test.Qxb6616283aChecked
import GoSem.Claim
import GoSem.ClaimJoined
import GoSem.ClaimMapViews
import Derived.JoinedTies
import Derived.KernelRfl
namespace Go.Proofs.Qxb6616283a
/- THE CELL 'sum', in the pinned program and in every row, IS THE sha256 OF THE DUMP (.gsa) THAT Qxb6616283aProg.lean LOADS. Nothing in Lean hashes anything: it is a label: what it is worth is what the hold of that sum in a sandbox is worth. -/
noncomputable def Try.pinned : Pinned := { name := "qxb6616283a", sum := "ddcbd38138ae2beb4ef6f59993efa6ec52bea8be89e1fac728bc81b52cc5cbe7", checked := Try.checked }
namespace Rows
def none {H : Type} : Left H := { results := [], args := [] }

/-- 'zzlaws_internal_document_b1.FnLabelsSetOneLabel': WHATEVER THE INPUT: true; the input reads as it did. -/
def fnLabelsSetOneLabelSpec : ChangeSpec := { name := "fnLabelsSetOneLabel", fn := fun _ => fun
  | [d1, d2, d3, d4, d5] => { results := [.lit (.bool true)], args := [d1, d2, d3, d4, d5] }
  | _ => none }
def fnLabelsSetOneLabelRow : OpenClaim := { program := "qxb6616283a", sum := "ddcbd38138ae2beb4ef6f59993efa6ec52bea8be89e1fac728bc81b52cc5cbe7", func := "example.com/portcullis/portcullis/zzlaws_internal_document_b1.FnLabelsSetOneLabel", spec := "fnLabelsSetOneLabel", apart := false }
def FnLabelsSetOneLabelSaid : Prop := fnLabelsSetOneLabelRow.holds Try.pinned (OpenSpec.ofChange fnLabelsSetOneLabelSpec)

/-- ITS FALSE NEIGHBOUR: 'it returns false'. Refute it at one input. -/
def fnLabelsSetOneLabelWrong : ChangeSpec := { name := "fnLabelsSetOneLabel", fn := fun _ => fun
  | [d1, d2, d3, d4, d5] => { results := [.lit (.bool false)], args := [d1, d2, d3, d4, d5] }
  | _ => none }
def FnLabelsSetOneLabelWrongFalsely : Prop := fnLabelsSetOneLabelRow.holds Try.pinned (OpenSpec.ofChange fnLabelsSetOneLabelWrong)

/-- 'zzlaws_internal_document_b1.FnLabelsFreshAndOnlyFromAMapping': WHATEVER THE INPUT: true; the input reads as it did. -/
def fnLabelsFreshAndOnlyFromAMappingSpec : ChangeSpec := { name := "fnLabelsFreshAndOnlyFromAMapping", fn := fun _ => fun
  | [d1, d2, d3, d4, d5] => { results := [.lit (.bool true)], args := [d1, d2, d3, d4, d5] }
  | _ => none }
def fnLabelsFreshAndOnlyFromAMappingRow : OpenClaim := { program := "qxb6616283a", sum := "ddcbd38138ae2beb4ef6f59993efa6ec52bea8be89e1fac728bc81b52cc5cbe7", func := "example.com/portcullis/portcullis/zzlaws_internal_document_b1.FnLabelsFreshAndOnlyFromAMapping", spec := "fnLabelsFreshAndOnlyFromAMapping", apart := false }
def FnLabelsFreshAndOnlyFromAMappingSaid : Prop := fnLabelsFreshAndOnlyFromAMappingRow.holds Try.pinned (OpenSpec.ofChange fnLabelsFreshAndOnlyFromAMappingSpec)

/-- ITS FALSE NEIGHBOUR: 'it returns false'. Refute it at one input. -/
def fnLabelsFreshAndOnlyFromAMappingWrong : ChangeSpec := { name := "fnLabelsFreshAndOnlyFromAMapping", fn := fun _ => fun
  | [d1, d2, d3, d4, d5] => { results := [.lit (.bool false)], args := [d1, d2, d3, d4, d5] }
  | _ => none }
def FnLabelsFreshAndOnlyFromAMappingWrongFalsely : Prop := fnLabelsFreshAndOnlyFromAMappingRow.holds Try.pinned (OpenSpec.ofChange fnLabelsFreshAndOnlyFromAMappingWrong)

end Rows
end Go.Proofs.Qxb6616283a
