import Derived.Test.Qxb6616853aFmtDele
import Derived.Stop.CallBack
import Derived.Stop.IfaceNil
import GoSem.ClaimData
namespace Go.Proofs.Qxb6616853aFmt
open Go.RowKit Go.Extern.Stop Go.Stop Go.Extern
attribute [local go_sem ↓] Go.wp_at_zero Go.wp_at_succ

/-! The closed facts for the walk over fmt's stopped front, at this program. -/
@[go_sem] theorem call60 (args : Array Value) (w : World) : (callFunc 60 args).run Tryf.prog w = ((FmtStop.errorf #[9, 141] #[64] args).run Tryf.prog w).andThen fun v w' => .ok (.value v) w' :=
  run_callFunc_extern Tryf.func60 (by kernel_rfl) (by kernel_rfl) (by kernel_rfl) (by kernel_rfl) args w
@[go_sem] theorem guardF (name : String) (w : World) : (FmtStop.guard name).run Tryf.prog w = .ok () w := by kernel_rfl
def verdictFmt : ByteArray := ⟨#[97, 32, 118, 101, 114, 100, 105, 99, 116, 32, 111, 110, 32, 115, 117, 98, 109, 105, 115, 115, 105, 111, 110, 32, 37, 100, 44, 32, 111, 102, 32, 37, 100]⟩
@[go_sem] theorem fmt0 : FmtStop.printed? ⟨#[97, 32, 118, 101, 114, 100, 105, 99, 116, 32, 111, 110, 32, 115, 117, 98, 109, 105, 115, 115, 105, 111, 110, 32, 37, 100, 44, 32, 111, 102, 32, 37, 100]⟩ 2 = some [(0, 100, false), (1, 100, false)] := by kernel_rfl
@[go_sem] theorem fmt0r (w : World) : (FmtDoors.printed ⟨#[97, 32, 118, 101, 114, 100, 105, 99, 116, 32, 111, 110, 32, 115, 117, 98, 109, 105, 115, 115, 105, 111, 110, 32, 37, 100, 44, 32, 111, 102, 32, 37, 100]⟩ 2).run Tryf.prog w = .ok [(0, 100, false), (1, 100, false)] w := by kernel_rfl
def shape3 : List UInt8 := [5, 3, 0, 0, 0, 0, 0, 0, 0, 105, 110, 116]
@[go_sem] theorem op3_100 (name : String) (x : Int) (w : World) : (FmtStop.operand name false 100 false (.iface 3 (.int .i64 x))).run Tryf.prog w = .ok (shape3, Go.Extern.Stop.digits 8 (x % 2 ^ 64).toNat) w := by kernel_rfl
@[go_sem] theorem op3_100w (name : String) (x : Int) (w : World) : (FmtStop.operand name true 100 false (.iface 3 (.int .i64 x))).run Tryf.prog w = .ok (shape3, Go.Extern.Stop.digits 8 (x % 2 ^ 64).toNat) w := by kernel_rfl
@[go_sem] theorem strict3 (name : String) (x : Int) (w : World) : (FmtStop.strict name (.iface 3 (.int .i64 x))).run Tryf.prog w = .ok (shape3, Go.Extern.Stop.digits 8 (x % 2 ^ 64).toNat) w := by kernel_rfl
@[go_sem] theorem ptr147 (w : World) : (FmtStop.ptrTo "errors.errorString").run Tryf.prog w = .ok 147 w := by kernel_rfl
@[go_sem] theorem elem147 (w : World) : (elemOf 147).run Tryf.prog w = .ok 149 w := by kernel_rfl
@[go_sem] theorem isError147 (w : World) : (FmtDoors.textMethod 147 "Error").run Tryf.prog w = .ok true w := by kernel_rfl

/-- fmt.Errorf: a new error. -/
def ErrPost (w : World) (e : Ending) (w' : World) : Prop := ∃ p, e = .returned (.iface 147 (.pointer (some p))) ∧ Below w.heap.size w w'

set_option maxHeartbeats 1000000 in
theorem errorf_any (Fi : Interp) (b : Nat) (x y : Int) (w : World) (hF : Fi.answers w.tape) (h0 : w.cell? ⟨b, 0, none⟩ = some (.iface 3 (.int .i64 x))) (h1 : w.cell? ⟨b, 1, none⟩ = some (.iface 3 (.int .i64 y))) :
    Calls Tryf.prog 56 #[.string ⟨#[97, 32, 118, 101, 114, 100, 105, 99, 116, 32, 111, 110, 32, 115, 117, 98, 109, 105, 115, 115, 105, 111, 110, 32, 37, 100, 44, 32, 111, 102, 32, 37, 100]⟩, .slice (some ⟨b, 0, none⟩) 2 2] w (ErrPost w) := by
  have hF' : ∀ i name reading k range, w.tape i (.extern (word name reading k) range) = Fi name reading k := hF
  go_enter Tryf.func56, Tryf.ntmps56
  go_wp2
  go_ret
  exact ⟨_, rfl, by first | exact ((Below.refl _ _).alloc (Nat.le_refl _) _).drew | exact ((Below.refl _ _).drew.alloc (Nat.le_refl _) _)⟩
end Go.Proofs.Qxb6616853aFmt
