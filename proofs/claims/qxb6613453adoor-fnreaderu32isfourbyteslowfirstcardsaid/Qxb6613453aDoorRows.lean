/-
  NARROWER THAN 'FOR EVERY INPUT', by the rows' own cells (each row's printed sentence says how): FnReaderU32IsFourBytesLowFirst: ifaces, laid.
  DERIVED. THE GIVEN ROWS OF THIS SEAT. 1 by the template 'for every input the law returns true; each argument reads behind the call as it read before'; 0 by the template 'total and deterministic' (their statements: Qxb6613453aDoorTotals.lean).
  GIVEN WITH THE SEED: the statements are not yours to turn. If you find one false, say at which input.
  Laid BY PROGRAM, IN A SANDBOX (cutbox-rows.mjs): the forced cells as the released guide's own fill.sh prints them over the translation b6b6c881f87eabd6… (all of the seat's roots in one cut). By AI agents, Wed Nov 11 2026. No macro, syntax, notation, axiom, sorry.
-/
import Derived.Test.Qxb6613453aDoorChecked
import GoSem.Claim
import GoSem.ClaimJoined
import GoSem.ClaimMapViews
import Derived.JoinedTies
import Derived.KernelRfl
namespace Go.Proofs.Qxb6613453aDoor
/- THE CELL 'sum', in the pinned program and in every row, IS THE sha256 OF THE DUMP (.gsa) THAT Qxb6613453aDoorProg.lean LOADS. Nothing in Lean hashes anything: it is a label: what it is worth is what the hold of that sum in a sandbox is worth. -/
noncomputable def Tryd.pinned : Pinned := { name := "qxb6613453adoor", sum := "b6b6c881f87eabd64120dabdddbf52f7396a301ccf6f5b206801633f72d6d569", checked := Tryd.checked }
namespace Rows
def none {H : Type} : Left H := { results := [], args := [] }

/- WHAT THE LISTED PACKAGE-LEVEL VARIABLES READ AS WHEN THE CALL BEGINS. Each datum BY PROGRAM (the guide's laid-datum.mjs) off the statement by which the dump's own 'gosem.cut.vars' lays the variable. In a bare row this is a premise. The card (Qxb6613453aDoorCards.lean) ties it to the program's text. -/
def laid_example_com_coverweave_coverweave_internal_covdata_errEnd {H : Type} : DataW H := .iface "*errors.errorString" (.ptr (.agg [.lit (.string [100, 97, 116, 97, 32, 101, 110, 100, 115, 32, 101, 97, 114, 108, 121])]))

/-- 'zzlaws_internal_covdata_b1.FnReaderU32IsFourBytesLowFirst': WHATEVER THE INPUT: true; the input reads as it did. -/
def fnReaderU32IsFourBytesLowFirstSpec : ChangeSpec := { name := "fnReaderU32IsFourBytesLowFirst", vars := ["example.com/coverweave/coverweave/internal/covdata.errEnd"], fn := fun _ => fun
  | [d1, d2, g1] => { results := [.lit (.bool true)], args := [d1, d2], vars := [g1] }
  | _ => none }
def fnReaderU32IsFourBytesLowFirstRow : OpenClaim := { program := "qxb6613453adoor", sum := "b6b6c881f87eabd64120dabdddbf52f7396a301ccf6f5b206801633f72d6d569", func := "example.com/coverweave/coverweave/zzlaws_internal_covdata_b1.FnReaderU32IsFourBytesLowFirst", spec := "fnReaderU32IsFourBytesLowFirst", named := ["example.com/coverweave/coverweave/internal/covdata.errEnd", "encoding/binary.LittleEndian"], ifaces := true, apart := false, laid := [("example.com/coverweave/coverweave/internal/covdata.errEnd", laid_example_com_coverweave_coverweave_internal_covdata_errEnd)] }
def FnReaderU32IsFourBytesLowFirstSaid : Prop := fnReaderU32IsFourBytesLowFirstRow.holds Tryd.pinned (OpenSpec.ofChange fnReaderU32IsFourBytesLowFirstSpec)

/-- ITS FALSE NEIGHBOUR: 'it returns false'. Refute it at one input. -/
def fnReaderU32IsFourBytesLowFirstWrong : ChangeSpec := { name := "fnReaderU32IsFourBytesLowFirst", vars := ["example.com/coverweave/coverweave/internal/covdata.errEnd"], fn := fun _ => fun
  | [d1, d2, g1] => { results := [.lit (.bool false)], args := [d1, d2], vars := [g1] }
  | _ => none }
def FnReaderU32IsFourBytesLowFirstWrongFalsely : Prop := fnReaderU32IsFourBytesLowFirstRow.holds Tryd.pinned (OpenSpec.ofChange fnReaderU32IsFourBytesLowFirstWrong)

end Rows
end Go.Proofs.Qxb6613453aDoor
