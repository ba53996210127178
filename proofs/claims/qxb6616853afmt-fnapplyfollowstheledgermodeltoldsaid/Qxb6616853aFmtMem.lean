import Derived.WalkKit
import Derived.Below
namespace Go.Proofs.Qxb6616853aFmt
open Go.RowKit

/-- Block g is a row of cells, none of them frozen. -/
def Blk (w : World) (g : Nat) (C : Array Value) (t : TypeId) : Prop := w.heap[g]? = some (.cells C t (0, 0))

theorem Blk.lt {w : World} {g : Nat} {C : Array Value} {t : TypeId} (h : Blk w g C t) : g < w.heap.size := by
  unfold Blk at h
  exact (Array.getElem?_eq_some_iff.1 h).1

theorem Blk.cell {w : World} {g : Nat} {C : Array Value} {t : TypeId} (h : Blk w g C t) (i : Nat) : w.cell? ⟨g, i, none⟩ = C[i]? := by
  unfold Blk at h
  simp [World.cell?, h]

theorem Blk.frozen {w : World} {g : Nat} {C : Array Value} {t : TypeId} (h : Blk w g C t) (i : Nat) : w.frozen? ⟨g, i, none⟩ = false := by
  unfold Blk at h
  simp [World.frozen?, h]

theorem Blk.alloc {w : World} {g : Nat} {C : Array Value} {t : TypeId} (h : Blk w g C t) (o : Obj) : Blk (w.alloc o) g C t :=
  (Below.heap_alloc w o g h.lt).trans h

theorem Blk.new (w : World) (C : Array Value) (t : TypeId) : Blk (w.alloc (.cells C t)) w.heap.size C t := by
  show (w.heap.push _)[w.heap.size]? = _
  simp

theorem Blk.drew {w : World} {g : Nat} {C : Array Value} {t : TypeId} (h : Blk w g C t) : Blk w.drew g C t := h

theorem Blk.set {w : World} {g : Nat} {C : Array Value} {t : TypeId} (h : Blk w g C t) (i : Nat) (v : Value) : Blk (w.setCell ⟨g, i, none⟩ v) g (C.setIfInBounds i v) t := by
  unfold Blk at h
  have hg := (Array.getElem?_eq_some_iff.1 h).1
  have hg2 := (Array.getElem?_eq_some_iff.1 h).2
  show (w.heap.modify g _)[g]? = _
  rw [Array.getElem?_modify]
  simp [h]

theorem Blk.other {w : World} {g : Nat} {C : Array Value} {t : TypeId} (h : Blk w g C t) {a : Addr} (ha : g ≠ a.block) (v : Value) : Blk (w.setCell a v) g C t :=
  (Below.heap_setCell w a v g ha).trans h

theorem Blk.below {w w' : World} {B g : Nat} {C : Array Value} {t : TypeId} (h : Blk w g C t) (hb : Below B w w') (hg : g < B) : Blk w' g C t :=
  (hb.block g hg).trans h

end Go.Proofs.Qxb6616853aFmt
