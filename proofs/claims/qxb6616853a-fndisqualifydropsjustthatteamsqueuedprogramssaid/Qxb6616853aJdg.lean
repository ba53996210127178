import Derived.Test.Qxb6616853aDisq
import Derived.Deep.RegionHeld3
namespace Go.Proofs.Qxb6616853a
open Go.RowKit
attribute [local go_sem ↓] Go.wp_at_zero Go.wp_at_succ

/-- The event of ZZsubmit. -/
def evC (team : ByteArray) : Array Value :=
  #[.int .i64 2, .string ByteArray.empty, .int .u64 0, .int .i64 0, .pointer none, .string team, .slice none 0 0, .int .i64 0, .string ByteArray.empty, .bool false, .int .i64 0, .int .i64 0, .slice none 0 0, .slice none 0 0, .int .i64 0, .bool false]
def recC : Array Value := #[.slice none 0 0, .int .i64 0, .int .i64 0]

theorem key83 (w : World) (em : Bool) (s : ByteArray) (n : Int) : (Instr.checkKey em 10000 83 (.agg #[.string s, .int .i64 n])).run Try.prog w = .ok () w := by
  kernel_rfl

/-- A look-up in the solved tasks' map while it is empty. -/
theorem look_empty (w : World) (sm : Nat) (s : ByteArray) (n : Int) (h : w.heap[sm]? = some (.map #[] 0)) :
    (Instr.lookup 53 (.map (some sm)) (.agg #[.string s, .int .i64 n]) false).run Try.prog w = .ok (.bool false) w := by
  simp [Instr.lookup, run_underlying Try.underlying53, MapKept.run_getObj_map h, key83, Instr.findKey, run_underlying Try.underlying83, Instr.findNow, Result.andThen]

def TruePost (w : World) (e : Ending) (w' : World) : Prop := e = .returned (.bool true) ∧ Below w.heap.size w w'

set_option maxHeartbeats 1000000 in
theorem judges_any (w : World) (L sm : Nat) (team : ByteArray) (hL : L < w.heap.size) (l11 : w.cell? ⟨L, 11, none⟩ = some (.map (some sm))) (hs : w.heap[sm]? = some (.map #[] 0)) :
    Calls Try.prog 40 #[.pointer (some ⟨L, 0, none⟩), .agg (evC team)] w (TruePost w) := by
  have hsl : sm < w.heap.size := (Array.getElem?_eq_some_iff.1 hs).1
  have hlk := look_empty ((w.alloc (.cells (evC team) 65))) sm team 0 (by rw [Below.heap_alloc _ _ _ hsl]; exact hs)
  have hlk1 := look_empty ((w.alloc (.cells (evC team) 65))).drew sm team 0 (by show (w.alloc _).heap[sm]? = _; rw [Below.heap_alloc _ _ _ hsl]; exact hs)
  have HN : Hid (Below w.heap.size w (w.alloc (.cells (evC team) 65)).drew) := ((Below.refl _ _).alloc (Nat.le_refl _) _).drew
  unfold evC at *
  go_enter Try.func40, Try.ntmps40
  go_wp2
  go_region
  go_wp2
  go_ret
  exact ⟨rfl, HN.out⟩
end Go.Proofs.Qxb6616853a
