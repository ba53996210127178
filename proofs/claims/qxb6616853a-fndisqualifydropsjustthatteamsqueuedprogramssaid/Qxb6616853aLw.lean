import Derived.Test.Qxb6616853aSet
import Derived.Test.Qxb6616853aSub
import Derived.Deep.RegionHeld3
import Derived.Deep.RegionWith
import Derived.Deep.CutRange
import Derived.Deep.DrawnRows
import Derived.BigQuiet
import Derived.Deep.QuietTactic
import Derived.Lib.SliceRun
import Derived.Carry
namespace Go.Proofs.Qxb6616853a
open Go.RowKit
attribute [local go_sem ↓] Go.wp_at_zero Go.wp_at_succ

/-- A ledger's cells. -/
def ledC (nm : ByteArray) (dm sm : Nat) (vs vq : Value) : Array Value :=
  #[.string nm, .map (some dm), .int .u64 0, .int .i64 0, .pointer none, .int .u64 0, .int .i64 0, .pointer none, .int .i64 0, .bool false, vs, .map (some sm), vq, .slice none 0 0, .bool true, .int .i64 0]

/-- A new run: the solved tasks' map is new. -/
def RunPost (w : World) (e : Ending) (w' : World) : Prop :=
  ∃ sm, e = .returned (.agg #[.int .u64 0, .int .i64 0, .pointer none, .int .u64 0, .int .i64 0, .pointer none, .int .i64 0, .bool false, .slice none 0 0, .map (some sm), .slice none 0 0, .slice none 0 0, .bool true, .int .i64 0]) ∧
    w'.heap[sm]? = some (.map #[] 0) ∧ w.heap.size ≤ sm ∧ Below w.heap.size w w'

theorem newMap (w : World) : (w.alloc (.map #[] 0)).heap[w.heap.size]? = some (.map #[] 0) := by
  show (w.heap.push _)[w.heap.size]? = _
  simp

set_option maxRecDepth 20000 in
set_option maxHeartbeats 1000000 in
theorem newRun_any (w : World) : Calls Try.prog 32 #[] w (RunPost w) := by
  have hmm := @run_makeMap Try.prog
  go_enter Try.func32, Try.ntmps32
  go_wp2
  refine bodyPost_ret (v := .agg #[.int .u64 0, .int .i64 0, .pointer none, .int .u64 0, .int .i64 0, .pointer none, .int .i64 0, .bool false, .slice none 0 0, .map (some (w.heap.size + 1)), .slice none 0 0, .slice none 0 0, .bool true, .int .i64 0]) (by simp [results, Try.results32, go_sem]) rfl ⟨_, rfl, ?_, ?_, ?_⟩
  · show ((w.heap.push _).push _)[w.heap.size + 1]? = _
    rw [Array.getElem?_push, if_pos (by simp)]
  · omega
  · exact ((Below.refl _ _).alloc (Nat.le_refl _) _).alloc (by simp) _

/-- A new ledger: its block, its two maps. -/
def NewPost (nm : ByteArray) (w : World) (e : Ending) (w' : World) : Prop :=
  ∃ L dm sm, e = .returned (.pointer (some ⟨L, 0, none⟩)) ∧ Blk w' L (ledC nm dm sm (.slice none 0 0) (.slice none 0 0)) 59 ∧ w'.heap[dm]? = some (.map #[] 0) ∧ w'.heap[sm]? = some (.map #[] 0) ∧
    dm ≠ sm ∧ w.heap.size ≤ L ∧ w.heap.size ≤ dm ∧ w.heap.size ≤ sm ∧ Below w.heap.size w w'

set_option maxRecDepth 20000 in
set_option maxHeartbeats 1000000 in
theorem newLedger_any (nm : ByteArray) (w : World) : Calls Try.prog 16 #[.string nm] w (NewPost nm w) := by
  have hmm := @run_makeMap Try.prog
  go_enter Try.func16, Try.ntmps16
  go_wp2_with fail
  refine (newRun_any _).mono ?_
  rintro e w1 ⟨sm, rfl, h1, h2, h3⟩
  have HM := newMap w
  go_wp2
  go_ret
  exact ⟨_, _, _, rfl, Blk.new _ _ _, by
    rw [Below.heap_alloc _ _ _ (by have := h3.size; simp at this; omega), h3.block _ (by simp)]; exact HM, by
    have := (Array.getElem?_eq_some_iff.1 h1).1
    rw [Below.heap_alloc _ _ _ this]; exact h1, by simp at h2; omega, by have := h3.size; simp at this; omega, Nat.le_refl _, by simp at h2; omega, (((Below.refl _ _).alloc (Nat.le_refl _) _).trans (h3.mono (by simp))).alloc (by have := h3.size; simp at this; omega) _⟩
end Go.Proofs.Qxb6616853a
