/-
  No cell of these rows narrows 'for every input' (looked for: loops, veiled, ifaces, maps, wideKeys, modest, calm, conditions, laid).
  DERIVED. THE GIVEN ROWS OF THIS SEAT. 1 by the template 'for every input the law returns true; each argument reads behind the call as it read before'; 0 by the template 'total and deterministic' (their statements: Qxb6616853aFmtTotals.lean).
  GIVEN WITH THE SEED: the statements are not yours to turn. If you find one false, say at which input.
  Laid BY PROGRAM, IN A SANDBOX (cutbox-rows.mjs): the forced cells as the released guide's own fill.sh prints them over the translation 31683bb00dca599f… (all of the seat's roots in one cut). By AI agents, Wed Nov 11 2026. No macro, syntax, notation, axiom, sorry.
-/
import Derived.Test.Qxb6616853aFmtChecked
import GoSem.Claim
import GoSem.ClaimJoined
import GoSem.ClaimMapViews
import Derived.JoinedTies
import Derived.KernelRfl
namespace Go.Proofs.Qxb6616853aFmt
/- THE CELL 'sum', in the pinned program and in every row, IS THE sha256 OF THE DUMP (.gsa) THAT Qxb6616853aFmtProg.lean LOADS. Nothing in Lean hashes anything: it is a label: what it is worth is what the hold of that sum in a sandbox is worth. -/
noncomputable def Tryf.pinned : Pinned := { name := "qxb6616853afmt", sum := "31683bb00dca599f5e32a6fd26f931ad5e519ceb4981b3dbae74151c4d396485", checked := Tryf.checked }
namespace Rows
def none {H : Type} : Left H := { results := [], args := [] }

/-- 'zzlaws_contest_b1.FnApplyFollowsTheLedgerModel': WHATEVER THE INPUT: true; the input reads as it did. -/
def fnApplyFollowsTheLedgerModelSpec : ChangeSpec := { name := "fnApplyFollowsTheLedgerModel", fn := fun _ => fun
  | [d] => { results := [.lit (.bool true)], args := [d] }
  | _ => none }
def fnApplyFollowsTheLedgerModelRow : OpenClaim := { program := "qxb6616853afmt", sum := "31683bb00dca599f5e32a6fd26f931ad5e519ceb4981b3dbae74151c4d396485", func := "example.com/portwright/portwright/zzlaws_contest_b1.FnApplyFollowsTheLedgerModel", spec := "fnApplyFollowsTheLedgerModel", stops := ["fmt.errorf"], inPlace := ["fmt.errorf"], unfollowed := true, recurses := true, plainKeys := false, apart := false }
/-- NO THEOREM (fmt's text is open here; it may be false): for the released tool's asking of the row's closed facts alone. THE STATEMENT IS 'FnApplyFollowsTheLedgerModelToldSaid' (Qxb6616853aFmtCards.lean). -/
def FnApplyFollowsTheLedgerModelFormAsk : Prop := fnApplyFollowsTheLedgerModelRow.holds Tryf.pinned (OpenSpec.ofChange fnApplyFollowsTheLedgerModelSpec)

/-- ITS FALSE NEIGHBOUR: 'it returns false'. Refute it at one input. -/
def fnApplyFollowsTheLedgerModelWrong : ChangeSpec := { name := "fnApplyFollowsTheLedgerModel", fn := fun _ => fun
  | [d] => { results := [.lit (.bool false)], args := [d] }
  | _ => none }
def FnApplyFollowsTheLedgerModelWrongFormAsk : Prop := fnApplyFollowsTheLedgerModelRow.holds Tryf.pinned (OpenSpec.ofChange fnApplyFollowsTheLedgerModelWrong)

end Rows
end Go.Proofs.Qxb6616853aFmt
