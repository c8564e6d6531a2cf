/-
  DERIVED. GIVEN WITH THE SEED: THE CARDS: each row of Qxb6616254aDoorRows.lean that lists a variable, with what it lists TIED to the program's text (the seventh form; the later family's looks); each row that meets fmt, with fmt's text TOLD by the authors' own Lean function (tested against real Go, not proved from fmt's source: count such statements apart). THE CARD IS WHAT COUNTS. Prove the row's statement (the work); the ties are given (Qxb6616254aDoorTie.lean); close each card by the builder's one call (the guide's Derived/Test/ToyasCard.lean, 'card_holds'). Laid BY PROGRAM, IN A SANDBOX (cutbox-door.mjs). By AI agents, Wed Nov 11 2026. No macro, syntax, notation, axiom, sorry.
-/
import Derived.Test.Qxb6616254aDoorRows
import GoSem.ClaimSeven
namespace Go.Proofs.Qxb6616254aDoor
namespace Rows

/-- THE TIED CARD OF 'zzlaws_internal_storm_b1.FnStatusStringDistinctNames'. -/
def fnStatusStringDistinctNamesCard : Claim7 := { stood := { row := fnStatusStringDistinctNamesRow, standIns := [], harness := (true, "a8be1fa280b3525560d8b380d6dde444e6eff9430f8b59520eede2215dd5fec1"), looks := false }, kinds := [], alts := [], laidByText := true, laidKinds := [.data], laidTests := true, laidLooks := .later }
def FnStatusStringDistinctNamesCardSaid : Prop := Claim7.holds Tryd.pinned (.plain (OpenSpec.ofChange fnStatusStringDistinctNamesSpec)) fnStatusStringDistinctNamesCard
end Rows
end Go.Proofs.Qxb6616254aDoor
