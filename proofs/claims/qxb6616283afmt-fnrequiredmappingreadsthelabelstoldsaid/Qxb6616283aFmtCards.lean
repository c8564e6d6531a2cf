/-
  DERIVED. GIVEN WITH THE SEED: THE CARDS: each row of Qxb6616283aFmtRows.lean that lists a variable, with what it lists TIED to the program's text (the seventh form; the later family's looks); each row that meets fmt, with fmt's text TOLD by the authors' own Lean function (tested against real Go, not proved from fmt's source: count such statements apart). THE CARD IS WHAT COUNTS. Prove the row's statement (the work); the ties are given (Qxb6616283aFmtTie.lean); close each card by the builder's one call (the guide's Derived/Test/ToyasCard.lean, 'card_holds'). Laid BY PROGRAM, IN A SANDBOX (cutbox-door.mjs). By AI agents, Wed Nov 11 2026. No macro, syntax, notation, axiom, sorry.
-/
import Derived.Test.Qxb6616283aFmtRows
import GoSem.ClaimSeven
namespace Go.Proofs.Qxb6616283aFmt
namespace Rows

/-- THE TOLD CARD OF 'zzlaws_internal_document_b1.FnCloneLeavesMakesEveryLeafX'. -/
def fnCloneLeavesMakesEveryLeafXCard : Claim7 := { stood := { row := fnCloneLeavesMakesEveryLeafXRow, standIns := [], harness := (true, "b23b1afa7bce624089c7833c0a33de8cbf75a476e3194c6b163b593c2be028c9"), looks := true }, told := true, goes := false }
def FnCloneLeavesMakesEveryLeafXToldSaid : Prop := Claim7.holds Tryf.pinned (.plain (OpenSpec.ofChange fnCloneLeavesMakesEveryLeafXSpec)) fnCloneLeavesMakesEveryLeafXCard
/-- ITS FALSE NEIGHBOUR. Refute it at one input. -/
def FnCloneLeavesMakesEveryLeafXToldWrongFalsely : Prop := Claim7.holds Tryf.pinned (.plain (OpenSpec.ofChange fnCloneLeavesMakesEveryLeafXWrong)) fnCloneLeavesMakesEveryLeafXCard

/-- THE TOLD CARD OF 'zzlaws_internal_document_b1.FnCloneLeavesCopyIsDeep'. -/
def fnCloneLeavesCopyIsDeepCard : Claim7 := { stood := { row := fnCloneLeavesCopyIsDeepRow, standIns := [], harness := (true, "b23b1afa7bce624089c7833c0a33de8cbf75a476e3194c6b163b593c2be028c9"), looks := true }, told := true, goes := false }
def FnCloneLeavesCopyIsDeepToldSaid : Prop := Claim7.holds Tryf.pinned (.plain (OpenSpec.ofChange fnCloneLeavesCopyIsDeepSpec)) fnCloneLeavesCopyIsDeepCard
/-- ITS FALSE NEIGHBOUR. Refute it at one input. -/
def FnCloneLeavesCopyIsDeepToldWrongFalsely : Prop := Claim7.holds Tryf.pinned (.plain (OpenSpec.ofChange fnCloneLeavesCopyIsDeepWrong)) fnCloneLeavesCopyIsDeepCard

/-- THE TOLD CARD OF 'zzlaws_internal_document_b1.FnRequiredMappingReadsTheLabels'. -/
def fnRequiredMappingReadsTheLabelsCard : Claim7 := { stood := { row := fnRequiredMappingReadsTheLabelsRow, standIns := [], harness := (true, "b23b1afa7bce624089c7833c0a33de8cbf75a476e3194c6b163b593c2be028c9"), looks := true }, told := true, goes := false }
def FnRequiredMappingReadsTheLabelsToldSaid : Prop := Claim7.holds Tryf.pinned (.plain (OpenSpec.ofChange fnRequiredMappingReadsTheLabelsSpec)) fnRequiredMappingReadsTheLabelsCard
/-- ITS FALSE NEIGHBOUR. Refute it at one input. -/
def FnRequiredMappingReadsTheLabelsToldWrongFalsely : Prop := Claim7.holds Tryf.pinned (.plain (OpenSpec.ofChange fnRequiredMappingReadsTheLabelsWrong)) fnRequiredMappingReadsTheLabelsCard
end Rows
end Go.Proofs.Qxb6616283aFmt
