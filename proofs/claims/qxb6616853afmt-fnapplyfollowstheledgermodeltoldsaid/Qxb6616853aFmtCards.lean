/-
  DERIVED. GIVEN WITH THE SEED: THE CARDS: each row of Qxb6616853aFmtRows.lean that lists a variable, with what it lists TIED to the program's text (the seventh form; the later family's looks); each row that meets fmt, with fmt's text TOLD by the authors' own Lean function (tested against real Go, not proved from fmt's source: count such statements apart). THE CARD IS WHAT COUNTS. Prove the row's statement (the work); the ties are given (Qxb6616853aFmtTie.lean); close each card by the builder's one call (the guide's Derived/Test/ToyasCard.lean, 'card_holds'). Laid BY PROGRAM, IN A SANDBOX (cutbox-door.mjs). By AI agents, Wed Nov 11 2026. No macro, syntax, notation, axiom, sorry.
-/
import Derived.Test.Qxb6616853aFmtRows
import GoSem.ClaimSeven
namespace Go.Proofs.Qxb6616853aFmt
namespace Rows

/-- THE TOLD CARD OF 'zzlaws_contest_b1.FnApplyFollowsTheLedgerModel'. -/
def fnApplyFollowsTheLedgerModelCard : Claim7 := { stood := { row := fnApplyFollowsTheLedgerModelRow, standIns := [], harness := (true, "f78d845d56954639aaa7a561733fcd769a127d1c1feef45c428a1e079cac170e"), looks := false }, told := true, goes := false }
def FnApplyFollowsTheLedgerModelToldSaid : Prop := Claim7.holds Tryf.pinned (.plain (OpenSpec.ofChange fnApplyFollowsTheLedgerModelSpec)) fnApplyFollowsTheLedgerModelCard
/-- ITS FALSE NEIGHBOUR. Refute it at one input. -/
def FnApplyFollowsTheLedgerModelToldWrongFalsely : Prop := Claim7.holds Tryf.pinned (.plain (OpenSpec.ofChange fnApplyFollowsTheLedgerModelWrong)) fnApplyFollowsTheLedgerModelCard
end Rows
end Go.Proofs.Qxb6616853aFmt
