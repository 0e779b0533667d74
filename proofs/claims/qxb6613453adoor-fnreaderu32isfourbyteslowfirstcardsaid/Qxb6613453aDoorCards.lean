/-
  DERIVED. GIVEN WITH THE SEED: THE CARDS: each row of Qxb6613453aDoorRows.lean that lists a variable, with what it lists TIED to the program's text (the seventh form; the later family's looks); each row that meets fmt, with fmt's text TOLD by the authors' own Lean function (tested against real Go, not proved from fmt's source: count such statements apart). THE CARD IS WHAT COUNTS. Prove the row's statement (the work); the ties are given (Qxb6613453aDoorTie.lean); close each card by the builder's one call (the guide's Derived/Test/ToyasCard.lean, 'card_holds'). Laid BY PROGRAM, IN A SANDBOX (cutbox-door.mjs). By AI agents, Wed Nov 11 2026. No macro, syntax, notation, axiom, sorry.
-/
import Derived.Test.Qxb6613453aDoorRows
import GoSem.ClaimSeven
namespace Go.Proofs.Qxb6613453aDoor
namespace Rows

/-- THE TIED CARD OF 'zzlaws_internal_covdata_b1.FnReaderU32IsFourBytesLowFirst'. -/
def fnReaderU32IsFourBytesLowFirstCard : Claim7 := { stood := { row := fnReaderU32IsFourBytesLowFirstRow, standIns := [], harness := (true, "953cdba449c1e199c7a8cdb1a201dcb30868d56c7722038c24724bbc1a6e277a"), looks := false }, kinds := [], alts := [], laidByText := true, laidKinds := [.sentinel], laidTests := true, laidLooks := .later }
def FnReaderU32IsFourBytesLowFirstCardSaid : Prop := Claim7.holds Tryd.pinned (.plain (OpenSpec.ofChange fnReaderU32IsFourBytesLowFirstSpec)) fnReaderU32IsFourBytesLowFirstCard
end Rows
end Go.Proofs.Qxb6613453aDoor
