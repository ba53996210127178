/-
  No cell of these rows narrows 'for every input' (looked for: loops, veiled, ifaces, maps, wideKeys, modest, calm, conditions, laid).
  DERIVED. THE GIVEN ROWS OF THIS SEAT. 2 by the template 'for every input the law returns true; each argument reads behind the call as it read before'; 0 by the template 'total and deterministic' (their statements: Qxb6617906aTotals.lean).
  GIVEN WITH THE SEED: the statements are not yours to turn. If you find one false, say at which input.
  Laid BY PROGRAM, IN A SANDBOX (cutbox-rows.mjs): the forced cells as the released guide's own fill.sh prints them over the translation 757e90200d772d7d… (all of the seat's roots in one cut). By AI agents, Wed Nov 11 2026. No macro, syntax, notation, axiom, sorry.
-/
import Derived.Test.Qxb6617906aChecked
import GoSem.Claim
import GoSem.ClaimJoined
import GoSem.ClaimMapViews
import Derived.JoinedTies
import Derived.KernelRfl
namespace Go.Proofs.Qxb6617906a
/- THE CELL 'sum', in the pinned program and in every row, IS THE sha256 OF THE DUMP (.gsa) THAT Qxb6617906aProg.lean LOADS. Nothing in Lean hashes anything: it is a label: what it is worth is what the hold of that sum in a sandbox is worth. -/
noncomputable def Try.pinned : Pinned := { name := "qxb6617906a", sum := "757e90200d772d7dc106c80f05edc1f9a6d92b57129d6cf734350d548f8baf6d", checked := Try.checked }
namespace Rows
def none {H : Type} : Left H := { results := [], args := [] }

/-- 'zzlaws_protocol_b1.FnPowRecurrence': WHATEVER THE INPUT: true; the input reads as it did. -/
def fnPowRecurrenceSpec : ChangeSpec := { name := "fnPowRecurrence", fn := fun _ => fun
  | [d1, d2] => { results := [.lit (.bool true)], args := [d1, d2] }
  | _ => none }
def fnPowRecurrenceRow : OpenClaim := { program := "qxb6617906a", sum := "757e90200d772d7dc106c80f05edc1f9a6d92b57129d6cf734350d548f8baf6d", func := "example.com/starling/starling/zzlaws_protocol_b1.FnPowRecurrence", spec := "fnPowRecurrence", apart := false }
def FnPowRecurrenceSaid : Prop := fnPowRecurrenceRow.holds Try.pinned (OpenSpec.ofChange fnPowRecurrenceSpec)

/-- ITS FALSE NEIGHBOUR: 'it returns false'. Refute it at one input. -/
def fnPowRecurrenceWrong : ChangeSpec := { name := "fnPowRecurrence", fn := fun _ => fun
  | [d1, d2] => { results := [.lit (.bool false)], args := [d1, d2] }
  | _ => none }
def FnPowRecurrenceWrongFalsely : Prop := fnPowRecurrenceRow.holds Try.pinned (OpenSpec.ofChange fnPowRecurrenceWrong)

/-- 'zzlaws_protocol_b1.FnPowTrailingZeros': WHATEVER THE INPUT: true; the input reads as it did. -/
def fnPowTrailingZerosSpec : ChangeSpec := { name := "fnPowTrailingZeros", fn := fun _ => fun
  | [d1, d2] => { results := [.lit (.bool true)], args := [d1, d2] }
  | _ => none }
def fnPowTrailingZerosRow : OpenClaim := { program := "qxb6617906a", sum := "757e90200d772d7dc106c80f05edc1f9a6d92b57129d6cf734350d548f8baf6d", func := "example.com/starling/starling/zzlaws_protocol_b1.FnPowTrailingZeros", spec := "fnPowTrailingZeros", apart := false }
def FnPowTrailingZerosSaid : Prop := fnPowTrailingZerosRow.holds Try.pinned (OpenSpec.ofChange fnPowTrailingZerosSpec)

/-- ITS FALSE NEIGHBOUR: 'it returns false'. Refute it at one input. -/
def fnPowTrailingZerosWrong : ChangeSpec := { name := "fnPowTrailingZeros", fn := fun _ => fun
  | [d1, d2] => { results := [.lit (.bool false)], args := [d1, d2] }
  | _ => none }
def FnPowTrailingZerosWrongFalsely : Prop := fnPowTrailingZerosRow.holds Try.pinned (OpenSpec.ofChange fnPowTrailingZerosWrong)

end Rows
end Go.Proofs.Qxb6617906a
