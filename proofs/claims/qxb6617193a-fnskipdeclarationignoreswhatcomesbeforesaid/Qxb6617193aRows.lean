/-
  No cell of these rows narrows 'for every input' (looked for: loops, veiled, ifaces, maps, wideKeys, modest, calm, conditions, laid).
  DERIVED. THE GIVEN ROWS OF THIS SEAT. 2 by the template 'for every input the law returns true; each argument reads behind the call as it read before'; 0 by the template 'total and deterministic' (their statements: Qxb6617193aTotals.lean).
  GIVEN WITH THE SEED: the statements are not yours to turn. If you find one false, say at which input.
  Laid BY PROGRAM, IN A SANDBOX (cutbox-rows.mjs): the forced cells as the released guide's own fill.sh prints them over the translation 24a00750aa513996… (all of the seat's roots in one cut). By AI agents, Wed Nov 11 2026. No macro, syntax, notation, axiom, sorry.
-/
import Derived.Test.Qxb6617193aChecked
import GoSem.Claim
import GoSem.ClaimJoined
import GoSem.ClaimMapViews
import Derived.JoinedTies
import Derived.KernelRfl
namespace Go.Proofs.Qxb6617193a
/- THE CELL 'sum', in the pinned program and in every row, IS THE sha256 OF THE DUMP (.gsa) THAT Qxb6617193aProg.lean LOADS. Nothing in Lean hashes anything: it is a label: what it is worth is what the hold of that sum in a sandbox is worth. -/
noncomputable def Try.pinned : Pinned := { name := "qxb6617193a", sum := "24a00750aa513996b3312892bdd4d990953da236144f0e9a7f871803845759c6", checked := Try.checked }
namespace Rows
def none {H : Type} : Left H := { results := [], args := [] }

/-- 'zzlaws_internal_syntax_b1.FnSkipDeclarationLandsPastFirstOuterSemicolon': WHATEVER THE INPUT: true; the input reads as it did. -/
def fnSkipDeclarationLandsPastFirstOuterSemicolonSpec : ChangeSpec := { name := "fnSkipDeclarationLandsPastFirstOuterSemicolon", fn := fun _ => fun
  | [d1, d2, d3] => { results := [.lit (.bool true)], args := [d1, d2, d3] }
  | _ => none }
def fnSkipDeclarationLandsPastFirstOuterSemicolonRow : OpenClaim := { program := "qxb6617193a", sum := "24a00750aa513996b3312892bdd4d990953da236144f0e9a7f871803845759c6", func := "example.com/ordinal/ordinal/zzlaws_internal_syntax_b1.FnSkipDeclarationLandsPastFirstOuterSemicolon", spec := "fnSkipDeclarationLandsPastFirstOuterSemicolon", apart := false }
def FnSkipDeclarationLandsPastFirstOuterSemicolonSaid : Prop := fnSkipDeclarationLandsPastFirstOuterSemicolonRow.holds Try.pinned (OpenSpec.ofChange fnSkipDeclarationLandsPastFirstOuterSemicolonSpec)

/-- ITS FALSE NEIGHBOUR: 'it returns false'. Refute it at one input. -/
def fnSkipDeclarationLandsPastFirstOuterSemicolonWrong : ChangeSpec := { name := "fnSkipDeclarationLandsPastFirstOuterSemicolon", fn := fun _ => fun
  | [d1, d2, d3] => { results := [.lit (.bool false)], args := [d1, d2, d3] }
  | _ => none }
def FnSkipDeclarationLandsPastFirstOuterSemicolonWrongFalsely : Prop := fnSkipDeclarationLandsPastFirstOuterSemicolonRow.holds Try.pinned (OpenSpec.ofChange fnSkipDeclarationLandsPastFirstOuterSemicolonWrong)

/-- 'zzlaws_internal_syntax_b1.FnSkipDeclarationIgnoresWhatComesBefore': WHATEVER THE INPUT: true; the input reads as it did. -/
def fnSkipDeclarationIgnoresWhatComesBeforeSpec : ChangeSpec := { name := "fnSkipDeclarationIgnoresWhatComesBefore", fn := fun _ => fun
  | [d1, d2, d3] => { results := [.lit (.bool true)], args := [d1, d2, d3] }
  | _ => none }
def fnSkipDeclarationIgnoresWhatComesBeforeRow : OpenClaim := { program := "qxb6617193a", sum := "24a00750aa513996b3312892bdd4d990953da236144f0e9a7f871803845759c6", func := "example.com/ordinal/ordinal/zzlaws_internal_syntax_b1.FnSkipDeclarationIgnoresWhatComesBefore", spec := "fnSkipDeclarationIgnoresWhatComesBefore", apart := false }
def FnSkipDeclarationIgnoresWhatComesBeforeSaid : Prop := fnSkipDeclarationIgnoresWhatComesBeforeRow.holds Try.pinned (OpenSpec.ofChange fnSkipDeclarationIgnoresWhatComesBeforeSpec)

/-- ITS FALSE NEIGHBOUR: 'it returns false'. Refute it at one input. -/
def fnSkipDeclarationIgnoresWhatComesBeforeWrong : ChangeSpec := { name := "fnSkipDeclarationIgnoresWhatComesBefore", fn := fun _ => fun
  | [d1, d2, d3] => { results := [.lit (.bool false)], args := [d1, d2, d3] }
  | _ => none }
def FnSkipDeclarationIgnoresWhatComesBeforeWrongFalsely : Prop := fnSkipDeclarationIgnoresWhatComesBeforeRow.holds Try.pinned (OpenSpec.ofChange fnSkipDeclarationIgnoresWhatComesBeforeWrong)

end Rows
end Go.Proofs.Qxb6617193a
