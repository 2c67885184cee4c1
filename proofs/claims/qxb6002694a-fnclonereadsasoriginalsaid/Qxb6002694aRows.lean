/-
  No cell of these rows narrows 'for every input' (looked for: loops, veiled, ifaces, maps, wideKeys, modest, calm, conditions, laid).
  DERIVED. THE GIVEN ROWS OF THIS SEAT. 5 by the template 'for every input the law returns true; each argument reads behind the call as it read before'; 0 by the template 'total and deterministic' (their statements: Qxb6002694aTotals.lean).
  GIVEN WITH THE SEED: the statements are not yours to turn. If you find one false, say at which input.
  Laid BY PROGRAM, IN A SANDBOX (cutbox-rows.mjs): the forced cells as the released guide's own fill.sh prints them over the translation f45065447f989567… (all of the seat's roots in one cut). By AI agents, Wed Nov 11 2026. No macro, syntax, notation, axiom, sorry.
-/
import Derived.Test.Qxb6002694aChecked
import GoSem.Claim
import GoSem.ClaimJoined
import GoSem.ClaimMapViews
import Derived.JoinedTies
import Derived.KernelRfl
namespace Go.Proofs.Qxb6002694a
/- THE CELL 'sum', in the pinned program and in every row, IS THE sha256 OF THE DUMP (.gsa) THAT Qxb6002694aProg.lean LOADS. Nothing in Lean hashes anything: it is a label: what it is worth is what the hold of that sum in a sandbox is worth. -/
noncomputable def Try.pinned : Pinned := { name := "qxb6002694a", sum := "f45065447f98956707985e0463ddcfa20cce7ee8ed4d72c507a6becff01f2515", checked := Try.checked }
namespace Rows
def none {H : Type} : Left H := { results := [], args := [] }

/-- 'zzlaws_internal_registry_b1.FnCloneReadsAsOriginal': WHATEVER THE INPUT: true; the input reads as it did. -/
def fnCloneReadsAsOriginalSpec : ChangeSpec := { name := "fnCloneReadsAsOriginal", fn := fun _ => fun
  | [d] => { results := [.lit (.bool true)], args := [d] }
  | _ => none }
def fnCloneReadsAsOriginalRow : OpenClaim := { program := "qxb6002694a", sum := "f45065447f98956707985e0463ddcfa20cce7ee8ed4d72c507a6becff01f2515", func := "example.com/tenure/tenure/zzlaws_internal_registry_b1.FnCloneReadsAsOriginal", spec := "fnCloneReadsAsOriginal", apart := false }
def FnCloneReadsAsOriginalSaid : Prop := fnCloneReadsAsOriginalRow.holds Try.pinned (OpenSpec.ofChange fnCloneReadsAsOriginalSpec)

/-- ITS FALSE NEIGHBOUR: 'it returns false'. Refute it at one input. -/
def fnCloneReadsAsOriginalWrong : ChangeSpec := { name := "fnCloneReadsAsOriginal", fn := fun _ => fun
  | [d] => { results := [.lit (.bool false)], args := [d] }
  | _ => none }
def FnCloneReadsAsOriginalWrongFalsely : Prop := fnCloneReadsAsOriginalRow.holds Try.pinned (OpenSpec.ofChange fnCloneReadsAsOriginalWrong)

/-- 'zzlaws_internal_registry_b1.FnCloneSharesNoMemory': WHATEVER THE INPUT: true; the input reads as it did. -/
def fnCloneSharesNoMemorySpec : ChangeSpec := { name := "fnCloneSharesNoMemory", fn := fun _ => fun
  | [d] => { results := [.lit (.bool true)], args := [d] }
  | _ => none }
def fnCloneSharesNoMemoryRow : OpenClaim := { program := "qxb6002694a", sum := "f45065447f98956707985e0463ddcfa20cce7ee8ed4d72c507a6becff01f2515", func := "example.com/tenure/tenure/zzlaws_internal_registry_b1.FnCloneSharesNoMemory", spec := "fnCloneSharesNoMemory", apart := false }
def FnCloneSharesNoMemorySaid : Prop := fnCloneSharesNoMemoryRow.holds Try.pinned (OpenSpec.ofChange fnCloneSharesNoMemorySpec)

/-- ITS FALSE NEIGHBOUR: 'it returns false'. Refute it at one input. -/
def fnCloneSharesNoMemoryWrong : ChangeSpec := { name := "fnCloneSharesNoMemory", fn := fun _ => fun
  | [d] => { results := [.lit (.bool false)], args := [d] }
  | _ => none }
def FnCloneSharesNoMemoryWrongFalsely : Prop := fnCloneSharesNoMemoryRow.holds Try.pinned (OpenSpec.ofChange fnCloneSharesNoMemoryWrong)

/-- 'zzlaws_internal_registry_b1.FnPhasesAreExactlyTheNamedPhases': WHATEVER THE INPUT: true; the input reads as it did. -/
def fnPhasesAreExactlyTheNamedPhasesSpec : ChangeSpec := { name := "fnPhasesAreExactlyTheNamedPhases", fn := fun _ => fun
  | [d] => { results := [.lit (.bool true)], args := [d] }
  | _ => none }
def fnPhasesAreExactlyTheNamedPhasesRow : OpenClaim := { program := "qxb6002694a", sum := "f45065447f98956707985e0463ddcfa20cce7ee8ed4d72c507a6becff01f2515", func := "example.com/tenure/tenure/zzlaws_internal_registry_b1.FnPhasesAreExactlyTheNamedPhases", spec := "fnPhasesAreExactlyTheNamedPhases", apart := false }
def FnPhasesAreExactlyTheNamedPhasesSaid : Prop := fnPhasesAreExactlyTheNamedPhasesRow.holds Try.pinned (OpenSpec.ofChange fnPhasesAreExactlyTheNamedPhasesSpec)

/-- ITS FALSE NEIGHBOUR: 'it returns false'. Refute it at one input. -/
def fnPhasesAreExactlyTheNamedPhasesWrong : ChangeSpec := { name := "fnPhasesAreExactlyTheNamedPhases", fn := fun _ => fun
  | [d] => { results := [.lit (.bool false)], args := [d] }
  | _ => none }
def FnPhasesAreExactlyTheNamedPhasesWrongFalsely : Prop := fnPhasesAreExactlyTheNamedPhasesRow.holds Try.pinned (OpenSpec.ofChange fnPhasesAreExactlyTheNamedPhasesWrong)

/-- 'zzlaws_internal_registry_b1.FnPhasesInOrderOfFirstMention': WHATEVER THE INPUT: true; the input reads as it did. -/
def fnPhasesInOrderOfFirstMentionSpec : ChangeSpec := { name := "fnPhasesInOrderOfFirstMention", fn := fun _ => fun
  | [d] => { results := [.lit (.bool true)], args := [d] }
  | _ => none }
def fnPhasesInOrderOfFirstMentionRow : OpenClaim := { program := "qxb6002694a", sum := "f45065447f98956707985e0463ddcfa20cce7ee8ed4d72c507a6becff01f2515", func := "example.com/tenure/tenure/zzlaws_internal_registry_b1.FnPhasesInOrderOfFirstMention", spec := "fnPhasesInOrderOfFirstMention", apart := false }
def FnPhasesInOrderOfFirstMentionSaid : Prop := fnPhasesInOrderOfFirstMentionRow.holds Try.pinned (OpenSpec.ofChange fnPhasesInOrderOfFirstMentionSpec)

/-- ITS FALSE NEIGHBOUR: 'it returns false'. Refute it at one input. -/
def fnPhasesInOrderOfFirstMentionWrong : ChangeSpec := { name := "fnPhasesInOrderOfFirstMention", fn := fun _ => fun
  | [d] => { results := [.lit (.bool false)], args := [d] }
  | _ => none }
def FnPhasesInOrderOfFirstMentionWrongFalsely : Prop := fnPhasesInOrderOfFirstMentionRow.holds Try.pinned (OpenSpec.ofChange fnPhasesInOrderOfFirstMentionWrong)

/-- 'zzlaws_internal_registry_b1.FnPhasesOfAPrefixIsAPrefix': WHATEVER THE INPUT: true; the input reads as it did. -/
def fnPhasesOfAPrefixIsAPrefixSpec : ChangeSpec := { name := "fnPhasesOfAPrefixIsAPrefix", fn := fun _ => fun
  | [d1, d2] => { results := [.lit (.bool true)], args := [d1, d2] }
  | _ => none }
def fnPhasesOfAPrefixIsAPrefixRow : OpenClaim := { program := "qxb6002694a", sum := "f45065447f98956707985e0463ddcfa20cce7ee8ed4d72c507a6becff01f2515", func := "example.com/tenure/tenure/zzlaws_internal_registry_b1.FnPhasesOfAPrefixIsAPrefix", spec := "fnPhasesOfAPrefixIsAPrefix", apart := false }
def FnPhasesOfAPrefixIsAPrefixSaid : Prop := fnPhasesOfAPrefixIsAPrefixRow.holds Try.pinned (OpenSpec.ofChange fnPhasesOfAPrefixIsAPrefixSpec)

/-- ITS FALSE NEIGHBOUR: 'it returns false'. Refute it at one input. -/
def fnPhasesOfAPrefixIsAPrefixWrong : ChangeSpec := { name := "fnPhasesOfAPrefixIsAPrefix", fn := fun _ => fun
  | [d1, d2] => { results := [.lit (.bool false)], args := [d1, d2] }
  | _ => none }
def FnPhasesOfAPrefixIsAPrefixWrongFalsely : Prop := fnPhasesOfAPrefixIsAPrefixRow.holds Try.pinned (OpenSpec.ofChange fnPhasesOfAPrefixIsAPrefixWrong)

end Rows
end Go.Proofs.Qxb6002694a
