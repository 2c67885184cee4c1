/-
  No cell of these rows narrows 'for every input' (looked for: loops, veiled, ifaces, maps, wideKeys, modest, calm, conditions, laid).
  DERIVED. THE GIVEN ROWS OF THIS SEAT. 4 by the template 'for every input the law returns true; each argument reads behind the call as it read before'; 0 by the template 'total and deterministic' (their statements: Qxb6604427aTotals.lean).
  GIVEN WITH THE SEED: the statements are not yours to turn. If you find one false, say at which input.
  Laid BY PROGRAM, IN A SANDBOX (cutbox-rows.mjs): the forced cells as the released guide's own fill.sh prints them over the translation 7c71ef90f7319b81… (all of the seat's roots in one cut). By AI agents, Wed Nov 11 2026. No macro, syntax, notation, axiom, sorry.
-/
import Derived.Test.Qxb6604427aChecked
import GoSem.Claim
import GoSem.ClaimJoined
import GoSem.ClaimMapViews
import Derived.JoinedTies
import Derived.KernelRfl
namespace Go.Proofs.Qxb6604427a
/- THE CELL 'sum', in the pinned program and in every row, IS THE sha256 OF THE DUMP (.gsa) THAT Qxb6604427aProg.lean LOADS. Nothing in Lean hashes anything: it is a label: what it is worth is what the hold of that sum in a sandbox is worth. -/
noncomputable def Try.pinned : Pinned := { name := "qxb6604427a", sum := "7c71ef90f7319b8174d8345d5518f20b4b290302fe2e4f071e9ac9af44659b84", checked := Try.checked }
namespace Rows
def none {H : Type} : Left H := { results := [], args := [] }

/-- 'zzlaws_internal_decode_b1.FnKeyTextIsTheKeyAtN': WHATEVER THE INPUT: true; the input reads as it did. -/
def fnKeyTextIsTheKeyAtNSpec : ChangeSpec := { name := "fnKeyTextIsTheKeyAtN", fn := fun _ => fun
  | [d1, d2, d3, d4] => { results := [.lit (.bool true)], args := [d1, d2, d3, d4] }
  | _ => none }
def fnKeyTextIsTheKeyAtNRow : OpenClaim := { program := "qxb6604427a", sum := "7c71ef90f7319b8174d8345d5518f20b4b290302fe2e4f071e9ac9af44659b84", func := "example.com/undent/undent/zzlaws_internal_decode_b1.FnKeyTextIsTheKeyAtN", spec := "fnKeyTextIsTheKeyAtN", apart := false }
def FnKeyTextIsTheKeyAtNSaid : Prop := fnKeyTextIsTheKeyAtNRow.holds Try.pinned (OpenSpec.ofChange fnKeyTextIsTheKeyAtNSpec)

/-- ITS FALSE NEIGHBOUR: 'it returns false'. Refute it at one input. -/
def fnKeyTextIsTheKeyAtNWrong : ChangeSpec := { name := "fnKeyTextIsTheKeyAtN", fn := fun _ => fun
  | [d1, d2, d3, d4] => { results := [.lit (.bool false)], args := [d1, d2, d3, d4] }
  | _ => none }
def FnKeyTextIsTheKeyAtNWrongFalsely : Prop := fnKeyTextIsTheKeyAtNRow.holds Try.pinned (OpenSpec.ofChange fnKeyTextIsTheKeyAtNWrong)

/-- 'zzlaws_internal_decode_b1.FnKeyTextAppendKeepsEveryKey': WHATEVER THE INPUT: true; the input reads as it did. -/
def fnKeyTextAppendKeepsEveryKeySpec : ChangeSpec := { name := "fnKeyTextAppendKeepsEveryKey", fn := fun _ => fun
  | [d1, d2, d3, d4] => { results := [.lit (.bool true)], args := [d1, d2, d3, d4] }
  | _ => none }
def fnKeyTextAppendKeepsEveryKeyRow : OpenClaim := { program := "qxb6604427a", sum := "7c71ef90f7319b8174d8345d5518f20b4b290302fe2e4f071e9ac9af44659b84", func := "example.com/undent/undent/zzlaws_internal_decode_b1.FnKeyTextAppendKeepsEveryKey", spec := "fnKeyTextAppendKeepsEveryKey", apart := false }
def FnKeyTextAppendKeepsEveryKeySaid : Prop := fnKeyTextAppendKeepsEveryKeyRow.holds Try.pinned (OpenSpec.ofChange fnKeyTextAppendKeepsEveryKeySpec)

/-- ITS FALSE NEIGHBOUR: 'it returns false'. Refute it at one input. -/
def fnKeyTextAppendKeepsEveryKeyWrong : ChangeSpec := { name := "fnKeyTextAppendKeepsEveryKey", fn := fun _ => fun
  | [d1, d2, d3, d4] => { results := [.lit (.bool false)], args := [d1, d2, d3, d4] }
  | _ => none }
def FnKeyTextAppendKeepsEveryKeyWrongFalsely : Prop := fnKeyTextAppendKeepsEveryKeyRow.holds Try.pinned (OpenSpec.ofChange fnKeyTextAppendKeepsEveryKeyWrong)

/-- 'zzlaws_internal_decode_b1.FnLongItemReadsTheItemAt': WHATEVER THE INPUT: true; the input reads as it did. -/
def fnLongItemReadsTheItemAtSpec : ChangeSpec := { name := "fnLongItemReadsTheItemAt", fn := fun _ => fun
  | [d1, d2, d3] => { results := [.lit (.bool true)], args := [d1, d2, d3] }
  | _ => none }
def fnLongItemReadsTheItemAtRow : OpenClaim := { program := "qxb6604427a", sum := "7c71ef90f7319b8174d8345d5518f20b4b290302fe2e4f071e9ac9af44659b84", func := "example.com/undent/undent/zzlaws_internal_decode_b1.FnLongItemReadsTheItemAt", spec := "fnLongItemReadsTheItemAt", apart := false }
def FnLongItemReadsTheItemAtSaid : Prop := fnLongItemReadsTheItemAtRow.holds Try.pinned (OpenSpec.ofChange fnLongItemReadsTheItemAtSpec)

/-- ITS FALSE NEIGHBOUR: 'it returns false'. Refute it at one input. -/
def fnLongItemReadsTheItemAtWrong : ChangeSpec := { name := "fnLongItemReadsTheItemAt", fn := fun _ => fun
  | [d1, d2, d3] => { results := [.lit (.bool false)], args := [d1, d2, d3] }
  | _ => none }
def FnLongItemReadsTheItemAtWrongFalsely : Prop := fnLongItemReadsTheItemAtRow.holds Try.pinned (OpenSpec.ofChange fnLongItemReadsTheItemAtWrong)

/-- 'zzlaws_internal_decode_b1.FnLongItemWalksTheTape': WHATEVER THE INPUT: true; the input reads as it did. -/
def fnLongItemWalksTheTapeSpec : ChangeSpec := { name := "fnLongItemWalksTheTape", fn := fun _ => fun
  | [d] => { results := [.lit (.bool true)], args := [d] }
  | _ => none }
def fnLongItemWalksTheTapeRow : OpenClaim := { program := "qxb6604427a", sum := "7c71ef90f7319b8174d8345d5518f20b4b290302fe2e4f071e9ac9af44659b84", func := "example.com/undent/undent/zzlaws_internal_decode_b1.FnLongItemWalksTheTape", spec := "fnLongItemWalksTheTape", apart := false }
def FnLongItemWalksTheTapeSaid : Prop := fnLongItemWalksTheTapeRow.holds Try.pinned (OpenSpec.ofChange fnLongItemWalksTheTapeSpec)

/-- ITS FALSE NEIGHBOUR: 'it returns false'. Refute it at one input. -/
def fnLongItemWalksTheTapeWrong : ChangeSpec := { name := "fnLongItemWalksTheTape", fn := fun _ => fun
  | [d] => { results := [.lit (.bool false)], args := [d] }
  | _ => none }
def FnLongItemWalksTheTapeWrongFalsely : Prop := fnLongItemWalksTheTapeRow.holds Try.pinned (OpenSpec.ofChange fnLongItemWalksTheTapeWrong)

end Rows
end Go.Proofs.Qxb6604427a
