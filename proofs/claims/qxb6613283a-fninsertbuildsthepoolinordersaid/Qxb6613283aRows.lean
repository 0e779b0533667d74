/-
  NARROWER THAN 'FOR EVERY INPUT', by the rows' own cells (each row's printed sentence says how): FnInsertBuildsThePoolInOrder: loops · FnInsertOrderDoesNotMatter: loops.
  DERIVED. THE GIVEN ROWS OF THIS SEAT. 2 by the template 'for every input the law returns true; each argument reads behind the call as it read before'; 0 by the template 'total and deterministic' (their statements: Qxb6613283aTotals.lean).
  GIVEN WITH THE SEED: the statements are not yours to turn. If you find one false, say at which input.
  Laid BY PROGRAM, IN A SANDBOX (cutbox-rows.mjs): the forced cells as the released guide's own fill.sh prints them over the translation fad852cec2e385f4… (all of the seat's roots in one cut). By AI agents, Wed Nov 11 2026. No macro, syntax, notation, axiom, sorry.
-/
import Derived.Test.Qxb6613283aChecked
import GoSem.Claim
import GoSem.ClaimJoined
import GoSem.ClaimMapViews
import Derived.JoinedTies
import Derived.KernelRfl
namespace Go.Proofs.Qxb6613283a
/- THE CELL 'sum', in the pinned program and in every row, IS THE sha256 OF THE DUMP (.gsa) THAT Qxb6613283aProg.lean LOADS. Nothing in Lean hashes anything: it is a label: what it is worth is what the hold of that sum in a sandbox is worth. -/
noncomputable def Try.pinned : Pinned := { name := "qxb6613283a", sum := "fad852cec2e385f448326586853eb28234068e41ae8339bc37e904d277e7dab0", checked := Try.checked }
namespace Rows
def none {H : Type} : Left H := { results := [], args := [] }

/-- 'zzlaws_root_b1.FnInsertBuildsThePoolInOrder': WHATEVER THE INPUT: true; the input reads as it did. -/
def fnInsertBuildsThePoolInOrderSpec : ChangeSpec := { name := "fnInsertBuildsThePoolInOrder", fn := fun _ => fun
  | [d1, d2] => { results := [.lit (.bool true)], args := [d1, d2] }
  | _ => none }
def fnInsertBuildsThePoolInOrderRow : OpenClaim := { program := "qxb6613283a", sum := "fad852cec2e385f448326586853eb28234068e41ae8339bc37e904d277e7dab0", func := "example.com/linearis/linearis/zzlaws_root_b1.FnInsertBuildsThePoolInOrder", spec := "fnInsertBuildsThePoolInOrder", recurses := true, loops := true, apart := false }
def FnInsertBuildsThePoolInOrderSaid : Prop := fnInsertBuildsThePoolInOrderRow.holds Try.pinned (OpenSpec.ofChange fnInsertBuildsThePoolInOrderSpec)

/-- ITS FALSE NEIGHBOUR: 'it returns false'. Refute it at one input. -/
def fnInsertBuildsThePoolInOrderWrong : ChangeSpec := { name := "fnInsertBuildsThePoolInOrder", fn := fun _ => fun
  | [d1, d2] => { results := [.lit (.bool false)], args := [d1, d2] }
  | _ => none }
def FnInsertBuildsThePoolInOrderWrongFalsely : Prop := fnInsertBuildsThePoolInOrderRow.holds Try.pinned (OpenSpec.ofChange fnInsertBuildsThePoolInOrderWrong)

/-- 'zzlaws_root_b1.FnInsertOrderDoesNotMatter': WHATEVER THE INPUT: true; the input reads as it did. -/
def fnInsertOrderDoesNotMatterSpec : ChangeSpec := { name := "fnInsertOrderDoesNotMatter", fn := fun _ => fun
  | [d1, d2] => { results := [.lit (.bool true)], args := [d1, d2] }
  | _ => none }
def fnInsertOrderDoesNotMatterRow : OpenClaim := { program := "qxb6613283a", sum := "fad852cec2e385f448326586853eb28234068e41ae8339bc37e904d277e7dab0", func := "example.com/linearis/linearis/zzlaws_root_b1.FnInsertOrderDoesNotMatter", spec := "fnInsertOrderDoesNotMatter", recurses := true, loops := true, apart := false }
def FnInsertOrderDoesNotMatterSaid : Prop := fnInsertOrderDoesNotMatterRow.holds Try.pinned (OpenSpec.ofChange fnInsertOrderDoesNotMatterSpec)

/-- ITS FALSE NEIGHBOUR: 'it returns false'. Refute it at one input. -/
def fnInsertOrderDoesNotMatterWrong : ChangeSpec := { name := "fnInsertOrderDoesNotMatter", fn := fun _ => fun
  | [d1, d2] => { results := [.lit (.bool false)], args := [d1, d2] }
  | _ => none }
def FnInsertOrderDoesNotMatterWrongFalsely : Prop := fnInsertOrderDoesNotMatterRow.holds Try.pinned (OpenSpec.ofChange fnInsertOrderDoesNotMatterWrong)

end Rows
end Go.Proofs.Qxb6613283a
