import Derived.Test.Qxb6616853aSubm
import Derived.Deep.CutRange
namespace Go.Proofs.Qxb6616853a
open Go.RowKit
attribute [local go_sem ↓] Go.wp_at_zero Go.wp_at_succ

theorem ledgerName_any (w : World) (F : Nat → Prop) (L : Nat) (nm : ByteArray) (D T : List ByteArray) (Q : List Nat) (h : IsLed w F L nm D T Q) :
    Calls Try.prog 19 #[.pointer (some ⟨L, 0, none⟩)] w fun e w' => e = .returned (.string nm) ∧ w' = w := by
  obtain ⟨dm, sm, es, ck, vs, vq, ps, h⟩ := h
  have c0 : w.cell? ⟨L, 0, none⟩ = some (.string nm) := h.led.cell 0
  clear h
  go_enter Try.func19, Try.ntmps19
  go_wp2
  go_ret
  exact ⟨rfl, rfl⟩

theorem subCount_any (w : World) (F : Nat → Prop) (L : Nat) (nm : ByteArray) (D T : List ByteArray) (Q : List Nat) (h : IsLed w F L nm D T Q) :
    Calls Try.prog 20 #[.pointer (some ⟨L, 0, none⟩)] w fun e w' => e = .returned (.int .i64 T.length) ∧ w' = w := by
  obtain ⟨dm, sm, es, ck, vs, vq, ps, h⟩ := h
  obtain ⟨a, c, rfl⟩ := owns_form h.subs
  have c0 : w.cell? ⟨L, 10, none⟩ = some (.slice a T.length c) := h.led.cell 10
  clear h
  go_enter Try.func20, Try.ntmps20
  go_wp2
  go_ret
  exact ⟨rfl, rfl⟩

theorem queueLen_any (w : World) (F : Nat → Prop) (L : Nat) (nm : ByteArray) (D T : List ByteArray) (Q : List Nat) (h : IsLed w F L nm D T Q) :
    Calls Try.prog 21 #[.pointer (some ⟨L, 0, none⟩)] w fun e w' => e = .returned (.int .i64 Q.length) ∧ w' = w := by
  obtain ⟨dm, sm, es, ck, vs, vq, ps, h⟩ := h
  obtain ⟨a, c, rfl⟩ := owns_form h.queue
  have c0 : w.cell? ⟨L, 12, none⟩ = some (.slice a Q.length c) := h.led.cell 12
  clear h
  go_enter Try.func21, Try.ntmps21
  go_wp2
  go_ret
  exact ⟨rfl, rfl⟩

theorem queueID_any (w : World) (F : Nat → Prop) (L : Nat) (nm : ByteArray) (D T : List ByteArray) (Q : List Nat) (j i : Nat) (h : IsLed w F L nm D T Q) (hj : Q[j]? = some i) :
    Calls Try.prog 22 #[.pointer (some ⟨L, 0, none⟩), .int .i64 j] w fun e w' => e = .returned (.int .i64 ((i : Int) + 1)) ∧ w' = w := by
  obtain ⟨dm, sm, es, ck, vs, vq, ps, h⟩ := h
  have hjl := (List.getElem?_eq_some_iff.1 hj).1
  have hil : i < ps.length := by rw [h.len]; exact h.qlt i (List.mem_of_getElem? hj)
  have hpi : ps[i]? = some (ps.getD i 0) := by rw [List.getD_eq_getElem?_getD, List.getElem?_eq_getElem hil]; rfl
  have c2 : w.cell? ⟨ps.getD i 0, 1, none⟩ = some (.int .i64 ((i : Int) + 1)) := (h.sub i _ hpi).2.cell 1
  have hq := h.queue
  rcases h.queue.2 with ⟨_, hn⟩ | ⟨g, cap, cur, rfl, _⟩
  · omega
  have c0 : w.cell? ⟨L, 12, none⟩ = some (.slice (some ⟨g, 0, none⟩) Q.length cap) := h.led.cell 12
  have c1 : w.cell? ⟨g, j, none⟩ = some (.pointer (some ⟨ps.getD i 0, 0, none⟩)) := by
    rw [hq.cellAt j (by omega), List.getElem?_map, List.getElem?_map, hj]
    rfl
  generalize ps.getD i 0 = p at c1 c2
  obtain ⟨m, hm⟩ : ∃ m, m = Q.length := ⟨_, rfl⟩
  rw [← hm] at c0 hjl
  clear h hq hpi hil hj hm
  go_enter Try.func22, Try.ntmps22
  go_wp2
  go_ret
  exact ⟨rfl, rfl⟩

theorem disqLen_any (w : World) (F : Nat → Prop) (L : Nat) (nm : ByteArray) (D T : List ByteArray) (Q : List Nat) (h : IsLed w F L nm D T Q) :
    Calls Try.prog 23 #[.pointer (some ⟨L, 0, none⟩)] w fun e w' => e = .returned (.int .i64 D.length) ∧ w' = w := by
  obtain ⟨dm, sm, es, ck, vs, vq, ps, h⟩ := h
  have c0 : w.cell? ⟨L, 1, none⟩ = some (.map (some dm)) := h.led.cell 1
  have hc := h.set.count
  have hlen : ∀ ty, (Builtin.len_ #[46] ty #[.map (some dm)]).run Try.prog w = .ok (goInt D.length) w := fun ty => by
    rw [← hc]
    simp [Builtin.len_, run_underlying Try.underlying46, MapKept.run_getObj_map h.dmap, goInt, Result.andThen]
  clear h hc
  go_enter Try.func23, Try.ntmps23
  go_wp2
  go_ret
  exact ⟨rfl, rfl⟩

theorem disq_any (w : World) (F : Nat → Prop) (L : Nat) (nm : ByteArray) (D T : List ByteArray) (Q : List Nat) (code : ByteArray) (hcs : code.size ≤ maxLen) (h : IsLed w F L nm D T Q) :
    Calls Try.prog 25 #[.pointer (some ⟨L, 0, none⟩), .string code] w fun e w' => e = .returned (.bool (memB D code)) ∧ w' = w := by
  obtain ⟨dm, sm, es, ck, vs, vq, ps, h⟩ := h
  have c0 : w.cell? ⟨L, 1, none⟩ = some (.map (some dm)) := h.led.cell 1
  have hlk := h.set.lookup (t := 46) (k := 9) (el := 4) Try.underlying46 Try.underlying9 (fun w => by kernel_rfl) h.dmap hcs
  clear h
  go_enter Try.func25, Try.ntmps25
  go_wp2
  go_ret
  exact ⟨rfl, rfl⟩

/-- A new ledger. -/
theorem isLed_new {nm : ByteArray} {w w' : World} {L dm sm : Nat} (hL : Blk w' L (ledC nm dm sm (.slice none 0 0) (.slice none 0 0)) 59) (hd : w'.heap[dm]? = some (.map #[] 0)) (hs : w'.heap[sm]? = some (.map #[] 0)) (hne : dm ≠ sm)
    (h1 : w.heap.size ≤ L) (h2 : w.heap.size ≤ dm) (h3 : w.heap.size ≤ sm) : ∃ F, IsLed w' F L nm [] [] [] ∧ ∀ k, F k → w.heap.size ≤ k := by
  refine ⟨fun k => k = L ∨ k = dm ∨ k = sm, ⟨dm, sm, #[], 0, _, _, [], ⟨hL, Or.inl rfl, Or.inr (Or.inl rfl), Or.inr (Or.inr rfl), hd, SetMap.empty, hs, hne, World.ownsRow_nil _ _ _ _, World.ownsRow_nil _ _ _ _, ?_, ?_, ?_, rfl, ?_, ?_, ?_⟩⟩, ?_⟩
  · intro k hk
    simp [Value.ownBlock] at hk
  · intro k hk
    simp [Value.ownBlock] at hk
  · intro k hk
    simp [Value.ownBlock] at hk
  · intro i p hp
    simp at hp
  · simp
  · rintro k (rfl | rfl | rfl)
    · exact hL.lt
    · exact (Array.getElem?_eq_some_iff.1 hd).1
    · exact (Array.getElem?_eq_some_iff.1 hs).1
  · rintro k (rfl | rfl | rfl)
    · exact h1
    · exact h2
    · exact h3
end Go.Proofs.Qxb6616853a
