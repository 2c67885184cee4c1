/-
  DERIVED. GIVEN WITH THE SEED: THE CARDS: each row of Qxb6604427aDoorRows.lean that lists a variable, with what it lists TIED to the program's text (the seventh form; the later family's looks); each row that meets fmt, with fmt's text TOLD by the authors' own Lean function (tested against real Go, not proved from fmt's source: count such statements apart). THE CARD IS WHAT COUNTS. Prove the row's statement (the work); the ties are given (Qxb6604427aDoorTie.lean); close each card by the builder's one call (the guide's Derived/Test/ToyasCard.lean, 'card_holds'). Laid BY PROGRAM, IN A SANDBOX (cutbox-door.mjs). By AI agents, Wed Nov 11 2026. No macro, syntax, notation, axiom, sorry.
-/
import Derived.Test.Qxb6604427aDoorRows
import GoSem.ClaimSeven
namespace Go.Proofs.Qxb6604427aDoor
namespace Rows

/-- THE TIED CARD OF 'zzlaws_internal_decode_b1.FnLevelOfIsWholeLevels'. -/
def fnLevelOfIsWholeLevelsCard : Claim7 := { stood := { row := fnLevelOfIsWholeLevelsRow, standIns := [], harness := (true, "b26918505317dc53c1ad53ca4ea782a50e306d1e09647b19311ead4c70a70793"), looks := false }, kinds := [], alts := [], laidByText := true, laidKinds := [.sentinel], laidTests := true, laidLooks := .later }
def FnLevelOfIsWholeLevelsCardSaid : Prop := Claim7.holds Tryd.pinned (.plain (OpenSpec.ofChange fnLevelOfIsWholeLevelsSpec)) fnLevelOfIsWholeLevelsCard

/-- THE TIED CARD OF 'zzlaws_internal_decode_b1.FnLevelOfStepsOneLevelPerIndent'. -/
def fnLevelOfStepsOneLevelPerIndentCard : Claim7 := { stood := { row := fnLevelOfStepsOneLevelPerIndentRow, standIns := [], harness := (true, "b26918505317dc53c1ad53ca4ea782a50e306d1e09647b19311ead4c70a70793"), looks := false }, kinds := [], alts := [], laidByText := true, laidKinds := [.sentinel], laidTests := true, laidLooks := .later }
def FnLevelOfStepsOneLevelPerIndentCardSaid : Prop := Claim7.holds Tryd.pinned (.plain (OpenSpec.ofChange fnLevelOfStepsOneLevelPerIndentSpec)) fnLevelOfStepsOneLevelPerIndentCard
end Rows
end Go.Proofs.Qxb6604427aDoor
