/-
  No cell of these rows narrows 'for every input' (looked for: loops, veiled, ifaces, maps, wideKeys, modest, calm, conditions, laid).
  DERIVED. THE GIVEN ROWS OF THIS SEAT. 5 by the template 'for every input the law returns true; each argument reads behind the call as it read before'; 0 by the template 'total and deterministic' (their statements: Qxb6616853aTotals.lean).
  GIVEN WITH THE SEED: the statements are not yours to turn. If you find one false, say at which input.
  Laid BY PROGRAM, IN A SANDBOX (cutbox-rows.mjs): the forced cells as the released guide's own fill.sh prints them over the translation 371615e86b6e18e6… (all of the seat's roots in one cut). By AI agents, Wed Nov 11 2026. No macro, syntax, notation, axiom, sorry.
-/
import Derived.Test.Qxb6616853aChecked
import GoSem.Claim
import GoSem.ClaimJoined
import GoSem.ClaimMapViews
import Derived.JoinedTies
import Derived.KernelRfl
namespace Go.Proofs.Qxb6616853a
/- THE CELL 'sum', in the pinned program and in every row, IS THE sha256 OF THE DUMP (.gsa) THAT Qxb6616853aProg.lean LOADS. Nothing in Lean hashes anything: it is a label: what it is worth is what the hold of that sum in a sandbox is worth. -/
noncomputable def Try.pinned : Pinned := { name := "qxb6616853a", sum := "371615e86b6e18e6d464911d43db89b68fbc2547e7ff602246031573af55df22", checked := Try.checked }
namespace Rows
def none {H : Type} : Left H := { results := [], args := [] }

/-- 'zzlaws_contest_b1.FnOneLineOfAJoinIsBothPartsAndMeansNoBreakByte': WHATEVER THE INPUT: true; the input reads as it did. -/
def fnOneLineOfAJoinIsBothPartsAndMeansNoBreakByteSpec : ChangeSpec := { name := "fnOneLineOfAJoinIsBothPartsAndMeansNoBreakByte", fn := fun _ => fun
  | [d1, d2] => { results := [.lit (.bool true)], args := [d1, d2] }
  | _ => none }
def fnOneLineOfAJoinIsBothPartsAndMeansNoBreakByteRow : OpenClaim := { program := "qxb6616853a", sum := "371615e86b6e18e6d464911d43db89b68fbc2547e7ff602246031573af55df22", func := "example.com/portwright/portwright/zzlaws_contest_b1.FnOneLineOfAJoinIsBothPartsAndMeansNoBreakByte", spec := "fnOneLineOfAJoinIsBothPartsAndMeansNoBreakByte", inPlace := ["internal/bytealg.IndexByteString", "internal/bytealg.IndexString"], named := ["internal/bytealg.MaxLen"], plainKeys := false, apart := false }
def FnOneLineOfAJoinIsBothPartsAndMeansNoBreakByteSaid : Prop := fnOneLineOfAJoinIsBothPartsAndMeansNoBreakByteRow.holds Try.pinned (OpenSpec.ofChange fnOneLineOfAJoinIsBothPartsAndMeansNoBreakByteSpec)

/-- ITS FALSE NEIGHBOUR: 'it returns false'. Refute it at one input. -/
def fnOneLineOfAJoinIsBothPartsAndMeansNoBreakByteWrong : ChangeSpec := { name := "fnOneLineOfAJoinIsBothPartsAndMeansNoBreakByte", fn := fun _ => fun
  | [d1, d2] => { results := [.lit (.bool false)], args := [d1, d2] }
  | _ => none }
def FnOneLineOfAJoinIsBothPartsAndMeansNoBreakByteWrongFalsely : Prop := fnOneLineOfAJoinIsBothPartsAndMeansNoBreakByteRow.holds Try.pinned (OpenSpec.ofChange fnOneLineOfAJoinIsBothPartsAndMeansNoBreakByteWrong)

/-- 'zzlaws_contest_b1.FnOneLineIsAFixedPointOfDroppingBreaks': WHATEVER THE INPUT: true; the input reads as it did. -/
def fnOneLineIsAFixedPointOfDroppingBreaksSpec : ChangeSpec := { name := "fnOneLineIsAFixedPointOfDroppingBreaks", fn := fun _ => fun
  | [d1, d2, d3] => { results := [.lit (.bool true)], args := [d1, d2, d3] }
  | _ => none }
def fnOneLineIsAFixedPointOfDroppingBreaksRow : OpenClaim := { program := "qxb6616853a", sum := "371615e86b6e18e6d464911d43db89b68fbc2547e7ff602246031573af55df22", func := "example.com/portwright/portwright/zzlaws_contest_b1.FnOneLineIsAFixedPointOfDroppingBreaks", spec := "fnOneLineIsAFixedPointOfDroppingBreaks", inPlace := ["internal/bytealg.IndexByteString", "internal/bytealg.IndexString"], named := ["internal/bytealg.MaxLen"], plainKeys := false, apart := false }
def FnOneLineIsAFixedPointOfDroppingBreaksSaid : Prop := fnOneLineIsAFixedPointOfDroppingBreaksRow.holds Try.pinned (OpenSpec.ofChange fnOneLineIsAFixedPointOfDroppingBreaksSpec)

/-- ITS FALSE NEIGHBOUR: 'it returns false'. Refute it at one input. -/
def fnOneLineIsAFixedPointOfDroppingBreaksWrong : ChangeSpec := { name := "fnOneLineIsAFixedPointOfDroppingBreaks", fn := fun _ => fun
  | [d1, d2, d3] => { results := [.lit (.bool false)], args := [d1, d2, d3] }
  | _ => none }
def FnOneLineIsAFixedPointOfDroppingBreaksWrongFalsely : Prop := fnOneLineIsAFixedPointOfDroppingBreaksRow.holds Try.pinned (OpenSpec.ofChange fnOneLineIsAFixedPointOfDroppingBreaksWrong)

/-- 'zzlaws_contest_b1.FnDisqualifyDropsJustThatTeamsQueuedPrograms': WHATEVER THE INPUT: true; the input reads as it did. -/
def fnDisqualifyDropsJustThatTeamsQueuedProgramsSpec : ChangeSpec := { name := "fnDisqualifyDropsJustThatTeamsQueuedPrograms", fn := fun _ => fun
  | [d1, d2, d3, d4] => { results := [.lit (.bool true)], args := [d1, d2, d3, d4] }
  | _ => none }
def fnDisqualifyDropsJustThatTeamsQueuedProgramsRow : OpenClaim := { program := "qxb6616853a", sum := "371615e86b6e18e6d464911d43db89b68fbc2547e7ff602246031573af55df22", func := "example.com/portwright/portwright/zzlaws_contest_b1.FnDisqualifyDropsJustThatTeamsQueuedPrograms", spec := "fnDisqualifyDropsJustThatTeamsQueuedPrograms", unfollowed := true, recurses := true, plainKeys := false, apart := false }
def FnDisqualifyDropsJustThatTeamsQueuedProgramsSaid : Prop := fnDisqualifyDropsJustThatTeamsQueuedProgramsRow.holds Try.pinned (OpenSpec.ofChange fnDisqualifyDropsJustThatTeamsQueuedProgramsSpec)

/-- ITS FALSE NEIGHBOUR: 'it returns false'. Refute it at one input. -/
def fnDisqualifyDropsJustThatTeamsQueuedProgramsWrong : ChangeSpec := { name := "fnDisqualifyDropsJustThatTeamsQueuedPrograms", fn := fun _ => fun
  | [d1, d2, d3, d4] => { results := [.lit (.bool false)], args := [d1, d2, d3, d4] }
  | _ => none }
def FnDisqualifyDropsJustThatTeamsQueuedProgramsWrongFalsely : Prop := fnDisqualifyDropsJustThatTeamsQueuedProgramsRow.holds Try.pinned (OpenSpec.ofChange fnDisqualifyDropsJustThatTeamsQueuedProgramsWrong)

/-- 'zzlaws_contest_b1.FnDisqualifyIsOrderFreeAndIdempotent': WHATEVER THE INPUT: true; the input reads as it did. -/
def fnDisqualifyIsOrderFreeAndIdempotentSpec : ChangeSpec := { name := "fnDisqualifyIsOrderFreeAndIdempotent", fn := fun _ => fun
  | [d1, d2, d3] => { results := [.lit (.bool true)], args := [d1, d2, d3] }
  | _ => none }
def fnDisqualifyIsOrderFreeAndIdempotentRow : OpenClaim := { program := "qxb6616853a", sum := "371615e86b6e18e6d464911d43db89b68fbc2547e7ff602246031573af55df22", func := "example.com/portwright/portwright/zzlaws_contest_b1.FnDisqualifyIsOrderFreeAndIdempotent", spec := "fnDisqualifyIsOrderFreeAndIdempotent", unfollowed := true, recurses := true, plainKeys := false, apart := false }
def FnDisqualifyIsOrderFreeAndIdempotentSaid : Prop := fnDisqualifyIsOrderFreeAndIdempotentRow.holds Try.pinned (OpenSpec.ofChange fnDisqualifyIsOrderFreeAndIdempotentSpec)

/-- ITS FALSE NEIGHBOUR: 'it returns false'. Refute it at one input. -/
def fnDisqualifyIsOrderFreeAndIdempotentWrong : ChangeSpec := { name := "fnDisqualifyIsOrderFreeAndIdempotent", fn := fun _ => fun
  | [d1, d2, d3] => { results := [.lit (.bool false)], args := [d1, d2, d3] }
  | _ => none }
def FnDisqualifyIsOrderFreeAndIdempotentWrongFalsely : Prop := fnDisqualifyIsOrderFreeAndIdempotentRow.holds Try.pinned (OpenSpec.ofChange fnDisqualifyIsOrderFreeAndIdempotentWrong)

/-- 'zzlaws_contest_b1.FnHasCompilerAfterOneIsPutInAnywhere': WHATEVER THE INPUT: true; the input reads as it did. -/
def fnHasCompilerAfterOneIsPutInAnywhereSpec : ChangeSpec := { name := "fnHasCompilerAfterOneIsPutInAnywhere", fn := fun _ => fun
  | [d1, d2, d3, d4, d5, d6] => { results := [.lit (.bool true)], args := [d1, d2, d3, d4, d5, d6] }
  | _ => none }
def fnHasCompilerAfterOneIsPutInAnywhereRow : OpenClaim := { program := "qxb6616853a", sum := "371615e86b6e18e6d464911d43db89b68fbc2547e7ff602246031573af55df22", func := "example.com/portwright/portwright/zzlaws_contest_b1.FnHasCompilerAfterOneIsPutInAnywhere", spec := "fnHasCompilerAfterOneIsPutInAnywhere", unfollowed := true, recurses := true, plainKeys := false, apart := false }
def FnHasCompilerAfterOneIsPutInAnywhereSaid : Prop := fnHasCompilerAfterOneIsPutInAnywhereRow.holds Try.pinned (OpenSpec.ofChange fnHasCompilerAfterOneIsPutInAnywhereSpec)

/-- ITS FALSE NEIGHBOUR: 'it returns false'. Refute it at one input. -/
def fnHasCompilerAfterOneIsPutInAnywhereWrong : ChangeSpec := { name := "fnHasCompilerAfterOneIsPutInAnywhere", fn := fun _ => fun
  | [d1, d2, d3, d4, d5, d6] => { results := [.lit (.bool false)], args := [d1, d2, d3, d4, d5, d6] }
  | _ => none }
def FnHasCompilerAfterOneIsPutInAnywhereWrongFalsely : Prop := fnHasCompilerAfterOneIsPutInAnywhereRow.holds Try.pinned (OpenSpec.ofChange fnHasCompilerAfterOneIsPutInAnywhereWrong)

end Rows
end Go.Proofs.Qxb6616853a
