import Derived.Test.Qxb6616853aFmtJu
namespace Go.Proofs.Qxb6616853aFmt
open Go.RowKit
attribute [local go_sem ↓] Go.wp_at_zero Go.wp_at_succ

/-- Is the submission e to be judged? -/
def toJudge (m : PLed) (e : PEv) : Bool := e.force || !memK m.solved e.team e.task

def JdgPost (b : Bool) (w : World) (e : Ending) (w' : World) : Prop := e = .returned (.bool b) ∧ Below w.heap.size w w'

set_option maxHeartbeats 1000000 in
theorem judges_any (w : World) (L sm : Nat) (es : Array MapEntry) (ck : Nat) (m : PLed) (e : PEv) (vt vn vm : Value) (he : e.Ok) (hL : L < w.heap.size) (l11 : w.cell? ⟨L, 11, none⟩ = some (.map (some sm))) (hs : w.heap[sm]? = some (.map es ck)) (hm : SolMap es m.solved) :
    Calls Tryf.prog 55 #[.pointer (some ⟨L, 0, none⟩), .agg (evC e vt vn vm)] w (JdgPost (toJudge m e) w) := by
  have hsl : sm < w.heap.size := (Array.getElem?_eq_some_iff.1 hs).1
  have hlk := hm.lookup (w := w.alloc (.cells (evC e vt vn vm) 97)) (b := sm) (ck := ck) (by rw [Below.heap_alloc _ _ _ hsl]; exact hs) he.team he.task
  have hlk1 := hm.lookup (w := (w.alloc (.cells (evC e vt vn vm) 97)).drew) (b := sm) (ck := ck) (by show (w.alloc _).heap[sm]? = _; rw [Below.heap_alloc _ _ _ hsl]; exact hs) he.team he.task
  have HN : Hid (Below w.heap.size w (w.alloc (.cells (evC e vt vn vm) 97)).drew) := ((Below.refl _ _).alloc (Nat.le_refl _) _).drew
  obtain ⟨f, hf⟩ : ∃ f, f = e.force := ⟨_, rfl⟩
  have hj : toJudge m e = (f || !memK m.solved e.team e.task) := by unfold toJudge; rw [hf]
  rw [hj]
  unfold evC at *
  rw [← hf] at hlk hlk1 HN ⊢
  clear hj hf
  cases f
  · go_enter Tryf.func55, Tryf.ntmps55
    go_wp2
    go_region
    go_wp2
    go_ret
    exact ⟨by simp, HN.out⟩
  · clear hlk hlk1
    go_enter Tryf.func55, Tryf.ntmps55
    go_wp2
    go_region
    go_wp2
    go_ret
    exact ⟨by simp, HN.out⟩
end Go.Proofs.Qxb6616853aFmt
