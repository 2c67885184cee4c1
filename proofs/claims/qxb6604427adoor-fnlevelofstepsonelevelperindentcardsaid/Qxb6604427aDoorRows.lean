/-
  NARROWER THAN 'FOR EVERY INPUT', by the rows' own cells (each row's printed sentence says how): FnLevelOfIsWholeLevels: laid · FnLevelOfStepsOneLevelPerIndent: laid.
  DERIVED. THE GIVEN ROWS OF THIS SEAT. 2 by the template 'for every input the law returns true; each argument reads behind the call as it read before'; 0 by the template 'total and deterministic' (their statements: Qxb6604427aDoorTotals.lean).
  GIVEN WITH THE SEED: the statements are not yours to turn. If you find one false, say at which input.
  Laid BY PROGRAM, IN A SANDBOX (cutbox-rows.mjs): the forced cells as the released guide's own fill.sh prints them over the translation 18c1a9d6971cc635… (all of the seat's roots in one cut). By AI agents, Wed Nov 11 2026. No macro, syntax, notation, axiom, sorry.
-/
import Derived.Test.Qxb6604427aDoorChecked
import GoSem.Claim
import GoSem.ClaimJoined
import GoSem.ClaimMapViews
import Derived.JoinedTies
import Derived.KernelRfl
namespace Go.Proofs.Qxb6604427aDoor
/- THE CELL 'sum', in the pinned program and in every row, IS THE sha256 OF THE DUMP (.gsa) THAT Qxb6604427aDoorProg.lean LOADS. Nothing in Lean hashes anything: it is a label: what it is worth is what the hold of that sum in a sandbox is worth. -/
noncomputable def Tryd.pinned : Pinned := { name := "qxb6604427adoor", sum := "18c1a9d6971cc6358dca3cccad1adffdb8959c9d6769e4742151da7505e809d9", checked := Tryd.checked }
namespace Rows
def none {H : Type} : Left H := { results := [], args := [] }

/- WHAT THE LISTED PACKAGE-LEVEL VARIABLES READ AS WHEN THE CALL BEGINS. Each datum BY PROGRAM (the guide's laid-datum.mjs) off the statement by which the dump's own 'gosem.cut.vars' lays the variable. In a bare row this is a premise. The card (Qxb6604427aDoorCards.lean) ties it to the program's text. -/
def laid_io_EOF {H : Type} : DataW H := .iface "*errors.errorString" (.ptr (.agg [.lit (.string [69, 79, 70])]))

/-- 'zzlaws_internal_decode_b1.FnLevelOfIsWholeLevels': WHATEVER THE INPUT: true; the input reads as it did. -/
def fnLevelOfIsWholeLevelsSpec : ChangeSpec := { name := "fnLevelOfIsWholeLevels", fn := fun _ => fun
  | [d1, d2] => { results := [.lit (.bool true)], args := [d1, d2] }
  | _ => none }
def fnLevelOfIsWholeLevelsRow : OpenClaim := { program := "qxb6604427adoor", sum := "18c1a9d6971cc6358dca3cccad1adffdb8959c9d6769e4742151da7505e809d9", func := "example.com/undent/undent/zzlaws_internal_decode_b1.FnLevelOfIsWholeLevels", spec := "fnLevelOfIsWholeLevels", named := ["io.EOF"], apart := false, laid := [("io.EOF", laid_io_EOF)] }
def FnLevelOfIsWholeLevelsSaid : Prop := fnLevelOfIsWholeLevelsRow.holds Tryd.pinned (OpenSpec.ofChange fnLevelOfIsWholeLevelsSpec)

/-- ITS FALSE NEIGHBOUR: 'it returns false'. Refute it at one input. -/
def fnLevelOfIsWholeLevelsWrong : ChangeSpec := { name := "fnLevelOfIsWholeLevels", fn := fun _ => fun
  | [d1, d2] => { results := [.lit (.bool false)], args := [d1, d2] }
  | _ => none }
def FnLevelOfIsWholeLevelsWrongFalsely : Prop := fnLevelOfIsWholeLevelsRow.holds Tryd.pinned (OpenSpec.ofChange fnLevelOfIsWholeLevelsWrong)

/-- 'zzlaws_internal_decode_b1.FnLevelOfStepsOneLevelPerIndent': WHATEVER THE INPUT: true; the input reads as it did. -/
def fnLevelOfStepsOneLevelPerIndentSpec : ChangeSpec := { name := "fnLevelOfStepsOneLevelPerIndent", fn := fun _ => fun
  | [d1, d2] => { results := [.lit (.bool true)], args := [d1, d2] }
  | _ => none }
def fnLevelOfStepsOneLevelPerIndentRow : OpenClaim := { program := "qxb6604427adoor", sum := "18c1a9d6971cc6358dca3cccad1adffdb8959c9d6769e4742151da7505e809d9", func := "example.com/undent/undent/zzlaws_internal_decode_b1.FnLevelOfStepsOneLevelPerIndent", spec := "fnLevelOfStepsOneLevelPerIndent", named := ["io.EOF"], apart := false, laid := [("io.EOF", laid_io_EOF)] }
def FnLevelOfStepsOneLevelPerIndentSaid : Prop := fnLevelOfStepsOneLevelPerIndentRow.holds Tryd.pinned (OpenSpec.ofChange fnLevelOfStepsOneLevelPerIndentSpec)

/-- ITS FALSE NEIGHBOUR: 'it returns false'. Refute it at one input. -/
def fnLevelOfStepsOneLevelPerIndentWrong : ChangeSpec := { name := "fnLevelOfStepsOneLevelPerIndent", fn := fun _ => fun
  | [d1, d2] => { results := [.lit (.bool false)], args := [d1, d2] }
  | _ => none }
def FnLevelOfStepsOneLevelPerIndentWrongFalsely : Prop := fnLevelOfStepsOneLevelPerIndentRow.holds Tryd.pinned (OpenSpec.ofChange fnLevelOfStepsOneLevelPerIndentWrong)

end Rows
end Go.Proofs.Qxb6604427aDoor
