/-
  DERIVED. GIVEN WITH THE SEED: THE CARDS: each row of Qxb6613335aDoorRows.lean that lists a variable, with what it lists TIED to the program's text (the seventh form; the later family's looks); each row that meets fmt, with fmt's text TOLD by the authors' own Lean function (tested against real Go, not proved from fmt's source: count such statements apart). THE CARD IS WHAT COUNTS. Prove the row's statement (the work); the ties are given (Qxb6613335aDoorTie.lean); close each card by the builder's one call (the guide's Derived/Test/ToyasCard.lean, 'card_holds'). Laid BY PROGRAM, IN A SANDBOX (cutbox-door.mjs). By AI agents, Wed Nov 11 2026. No macro, syntax, notation, axiom, sorry.
-/
import Derived.Test.Qxb6613335aDoorRows
import GoSem.ClaimSeven
namespace Go.Proofs.Qxb6613335aDoor
namespace Rows

/-- THE TIED CARD OF 'zzlaws_pkg_registry_b1.FnHasAgreesWithSource'. -/
def fnHasAgreesWithSourceCard : Claim7 := { stood := { row := fnHasAgreesWithSourceRow, standIns := [], harness := (true, "8f83386e33ce11d906d06062776eb8e0405f940392ee2ac87f4d9359168b89b1"), looks := false }, kinds := [], alts := [], laidByText := true, laidKinds := [.data, .data, .data, .called, .called, .zero], laidTests := true, laidLooks := .later }
def FnHasAgreesWithSourceCardSaid : Prop := Claim7.holds Tryd.pinned (.plain (OpenSpec.ofChange fnHasAgreesWithSourceSpec)) fnHasAgreesWithSourceCard
end Rows
end Go.Proofs.Qxb6613335aDoor
