/-
  NARROWER THAN 'FOR EVERY INPUT', by the rows' own cells (each row's printed sentence says how): FnStatusStringDistinctNames: laid.
  DERIVED. THE GIVEN ROWS OF THIS SEAT. 1 by the template 'for every input the law returns true; each argument reads behind the call as it read before'; 0 by the template 'total and deterministic' (their statements: Qxb6616254aDoorTotals.lean).
  GIVEN WITH THE SEED: the statements are not yours to turn. If you find one false, say at which input.
  Laid BY PROGRAM, IN A SANDBOX (cutbox-rows.mjs): the forced cells as the released guide's own fill.sh prints them over the translation 23b36087f41d993e… (all of the seat's roots in one cut). By AI agents, Wed Nov 11 2026. No macro, syntax, notation, axiom, sorry.
-/
import Derived.Test.Qxb6616254aDoorChecked
import GoSem.Claim
import GoSem.ClaimJoined
import GoSem.ClaimMapViews
import Derived.JoinedTies
import Derived.KernelRfl
namespace Go.Proofs.Qxb6616254aDoor
/- THE CELL 'sum', in the pinned program and in every row, IS THE sha256 OF THE DUMP (.gsa) THAT Qxb6616254aDoorProg.lean LOADS. Nothing in Lean hashes anything: it is a label: what it is worth is what the hold of that sum in a sandbox is worth. -/
noncomputable def Tryd.pinned : Pinned := { name := "qxb6616254adoor", sum := "23b36087f41d993e325131794f23b015e1b92173850d9924e2b5e0ef259408cf", checked := Tryd.checked }
namespace Rows
def none {H : Type} : Left H := { results := [], args := [] }

/- WHAT THE LISTED PACKAGE-LEVEL VARIABLES READ AS WHEN THE CALL BEGINS. Each datum BY PROGRAM (the guide's laid-datum.mjs) off the statement by which the dump's own 'gosem.cut.vars' lays the variable. In a bare row this is a premise. The card (Qxb6616254aDoorCards.lean) ties it to the program's text. -/
def laid_example_com_squallguard_squallguard_internal_storm_statusNames {H : Type} : DataW H := .agg [.lit (.string []), .lit (.string [105, 110, 97, 99, 116, 105, 118, 101]), .lit (.string [102, 111, 114, 119, 97, 114, 100, 105, 110, 103]), .lit (.string [116, 114, 97, 102, 102, 105, 99, 84, 121, 112, 101, 70, 105, 108, 116, 101, 114, 101, 100]), .lit (.string [97, 108, 108, 84, 114, 97, 102, 102, 105, 99, 70, 105, 108, 116, 101, 114, 101, 100]), .lit (.string [115, 104, 117, 116, 100, 111, 119, 110])]

/-- 'zzlaws_internal_storm_b1.FnStatusStringDistinctNames': WHATEVER THE INPUT: true; the input reads as it did. -/
def fnStatusStringDistinctNamesSpec : ChangeSpec := { name := "fnStatusStringDistinctNames", vars := ["example.com/squallguard/squallguard/internal/storm.statusNames"], fn := fun _ => fun
  | [d1, d2, g1] => { results := [.lit (.bool true)], args := [d1, d2], vars := [g1] }
  | _ => none }
def fnStatusStringDistinctNamesRow : OpenClaim := { program := "qxb6616254adoor", sum := "23b36087f41d993e325131794f23b015e1b92173850d9924e2b5e0ef259408cf", func := "example.com/squallguard/squallguard/zzlaws_internal_storm_b1.FnStatusStringDistinctNames", spec := "fnStatusStringDistinctNames", named := ["example.com/squallguard/squallguard/internal/storm.statusNames"], apart := false, laid := [("example.com/squallguard/squallguard/internal/storm.statusNames", laid_example_com_squallguard_squallguard_internal_storm_statusNames)] }
def FnStatusStringDistinctNamesSaid : Prop := fnStatusStringDistinctNamesRow.holds Tryd.pinned (OpenSpec.ofChange fnStatusStringDistinctNamesSpec)

/-- ITS FALSE NEIGHBOUR: 'it returns false'. Refute it at one input. -/
def fnStatusStringDistinctNamesWrong : ChangeSpec := { name := "fnStatusStringDistinctNames", vars := ["example.com/squallguard/squallguard/internal/storm.statusNames"], fn := fun _ => fun
  | [d1, d2, g1] => { results := [.lit (.bool false)], args := [d1, d2], vars := [g1] }
  | _ => none }
def FnStatusStringDistinctNamesWrongFalsely : Prop := fnStatusStringDistinctNamesRow.holds Tryd.pinned (OpenSpec.ofChange fnStatusStringDistinctNamesWrong)

end Rows
end Go.Proofs.Qxb6616254aDoor
