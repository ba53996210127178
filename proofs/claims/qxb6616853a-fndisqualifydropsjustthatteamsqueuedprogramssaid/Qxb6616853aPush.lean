import Derived.Test.Qxb6616853aJdg
namespace Go.Proofs.Qxb6616853a
open Go.RowKit

theorem teamAt_old {T : List ByteArray} {team : ByteArray} {i : Nat} (h : i < T.length) : teamAt (T ++ [team]) i = teamAt T i := by
  unfold teamAt
  rw [List.getD_eq_getElem?_getD, List.getD_eq_getElem?_getD, List.getElem?_append_left h]
theorem teamAt_new {T : List ByteArray} {team : ByteArray} : teamAt (T ++ [team]) T.length = team := by
  unfold teamAt
  rw [List.getD_eq_getElem?_getD, List.getElem?_append_right (Nat.le_refl _)]
  simp

theorem qel_push {ps : List Nat} {T : List ByteArray} {Q : List Nat} {p : Nat} {team : ByteArray} (hl : ps.length = T.length) (hq : ∀ i ∈ Q, i < T.length) :
    (Q ++ [T.length]).map (qel (ps ++ [p]) (T ++ [team])) = Q.map (qel ps T) ++ [(p, team)] := by
  rw [List.map_append]
  congr 1
  · apply List.map_congr_left
    intro i hi
    have := hq i hi
    unfold qel
    rw [teamAt_old this, List.getD_eq_getElem?_getD, List.getD_eq_getElem?_getD, List.getElem?_append_left (by omega)]
  · simp only [List.map_cons, List.map_nil]
    unfold qel
    rw [teamAt_new, List.getD_eq_getElem?_getD, List.getElem?_append_right (by omega)]
    simp [hl]

set_option maxHeartbeats 1000000 in
/-- What is behind a submission: the queue's row at g, the submissions' row at g2, both maybe new; the submission at p. -/
theorem LedAt.submit {wy w2 w4 : World} {F : Nat → Prop} {L : Nat} {nm : ByteArray} {D T : List ByteArray} {Q : List Nat} {dm sm : Nat} {es : Array MapEntry} {ck : Nat} {vs vq : Value} {ps : List Nat} {p g g2 cap cap2 : Nat} {team : ByteArray} {o1 o2 : Obj}
    (h : LedAt wy F L nm D T Q dm sm es ck vs vq ps) (hp : Blk wy p (subC L ((T.length : Int) + 1) team) 69)
    (hq2 : w2.ownsRow 0 70 1 (.slice (some ⟨g, 0, none⟩) (Q.length + 1) cap) (Q.length + 1) ((Q.map (qel ps T)).map pv ++ [ptrV p])) (hg1 : (wy.alloc o1).grownBy w2 vq.ownBlock) (hat1 : vq.ownBlock = some g ∨ g = wy.heap.size + 1)
    (hs4 : w4.ownsRow 0 70 1 (.slice (some ⟨g2, 0, none⟩) (T.length + 1) cap2) (T.length + 1) (ps.map ptrV ++ [ptrV p])) (hg2 : ((w2.setCell ⟨L, 12, none⟩ (.slice (some ⟨g, 0, none⟩) (Q.length + 1) cap)).alloc o2).grownBy w4 vs.ownBlock) (hat2 : vs.ownBlock = some g2 ∨ g2 = w2.heap.size + 1) :
    LedAt (w4.setCell ⟨L, 10, none⟩ (.slice (some ⟨g2, 0, none⟩) (T.length + 1) cap2)) (fun k => F k ∨ k = p ∨ k = g ∨ k = g2) L nm D (T ++ [team]) (Q ++ [T.length]) dm sm es ck (.slice (some ⟨g2, 0, none⟩) (T.length + 1) cap2) (.slice (some ⟨g, 0, none⟩) (Q.length + 1) cap) (ps ++ [p]) ∧
    (∀ k, k < wy.heap.size → ¬ F k → (w4.setCell ⟨L, 10, none⟩ (.slice (some ⟨g2, 0, none⟩) (T.length + 1) cap2)).heap[k]? = wy.heap[k]?) ∧ wy.heap.size ≤ w4.heap.size ∧ w4.os = wy.os ∧ w4.tape = wy.tape ∧ w4.output = wy.output ∧ (F g ∨ wy.heap.size ≤ g) ∧ (F g2 ∨ wy.heap.size ≤ g2) := by
  have hLlt := h.led.lt
  have hz1 : wy.heap.size + 1 ≤ w2.heap.size := by simpa using hg1.size
  have hz2 : w2.heap.size + 1 ≤ w4.heap.size := by simpa using hg2.size
  obtain ⟨Cg, hCg⟩ := owns_row hq2 (k := g) rfl
  obtain ⟨Cg2, hCg2⟩ := owns_row hs4 (k := g2) rfl
  have hgl := hCg.lt
  have hg2l := hCg2.lt
  -- an old row of pointers
  have oldq : ∀ k, vq.ownBlock = some k → ∃ C, Blk wy k C 70 := fun k hk => owns_row h.queue hk
  have olds : ∀ k, vs.ownBlock = some k → ∃ C, Blk wy k C 70 := fun k hk => owns_row h.subs hk
  have hLq : vq.ownBlock ≠ some L := fun e => by obtain ⟨C, hC⟩ := oldq L e; exact hC.apart h.led (by decide) rfl
  have hLs : vs.ownBlock ≠ some L := fun e => by obtain ⟨C, hC⟩ := olds L e; exact hC.apart h.led (by decide) rfl
  have hgL : g ≠ L := by
    rcases hat1 with e | e
    · exact fun e' => hLq (e' ▸ e)
    · omega
  have hg2L : g2 ≠ L := by
    rcases hat2 with e | e
    · exact fun e' => hLs (e' ▸ e)
    · omega
  have hgs : vs.ownBlock ≠ some g := fun e => by
    rcases hat1 with e' | e'
    · exact h.apart g e e'
    · obtain ⟨C, hC⟩ := olds g e
      have := hC.lt
      omega
  have hgg2 : g2 ≠ g := by
    rcases hat2 with e | e
    · exact fun e' => hgs (e' ▸ e)
    · omega
  -- blocks of wy that none of the four steps touches
  have hb2 : ∀ k, k < wy.heap.size → vq.ownBlock ≠ some k → w2.heap[k]? = wy.heap[k]? := fun k hk hne =>
    (hg1.block k (by simp; omega) (fun e => hne e.symm)).trans (Below.heap_alloc _ _ _ hk)
  have hb3 : ∀ k, k < w2.heap.size → k ≠ L → ((w2.setCell ⟨L, 12, none⟩ (.slice (some ⟨g, 0, none⟩) (Q.length + 1) cap)).alloc o2).heap[k]? = w2.heap[k]? := fun k hk hne =>
    (Below.heap_alloc _ _ _ (by simpa using hk)).trans (Below.heap_setCell _ _ _ _ hne)
  have hb4 : ∀ k, k < w2.heap.size → k ≠ L → vs.ownBlock ≠ some k → w4.heap[k]? = w2.heap[k]? := fun k hk hne hns =>
    (hg2.block k (by simp; omega) (fun e => hns e.symm)).trans (hb3 k hk hne)
  have hb5 : ∀ k, k < w2.heap.size → k ≠ L → vs.ownBlock ≠ some k → (w4.setCell ⟨L, 10, none⟩ (.slice (some ⟨g2, 0, none⟩) (T.length + 1) cap2)).heap[k]? = w2.heap[k]? := fun k hk hne hns =>
    (Below.heap_setCell _ _ _ _ hne).trans (hb4 k hk hne hns)
  have hby : ∀ k, k < wy.heap.size → k ≠ L → vq.ownBlock ≠ some k → vs.ownBlock ≠ some k → (w4.setCell ⟨L, 10, none⟩ (.slice (some ⟨g2, 0, none⟩) (T.length + 1) cap2)).heap[k]? = wy.heap[k]? := fun k hk h1 h2 h3 =>
    (hb5 k (by omega) h1 h3).trans (hb2 k hk h2)
  -- a block that is no row of pointers, and not L
  have hbn : ∀ k, F k → k ≠ L → (∀ C, ¬ Blk wy k C 70) → (w4.setCell ⟨L, 10, none⟩ (.slice (some ⟨g2, 0, none⟩) (T.length + 1) cap2)).heap[k]? = wy.heap[k]? := fun k hk h1 h2 =>
    hby k (h.below k hk) h1 (fun e => by obtain ⟨C, hC⟩ := oldq k e; exact h2 C hC) (fun e => by obtain ⟨C, hC⟩ := olds k e; exact h2 C hC)
  have hmapn : ∀ k es ck, wy.heap[k]? = some (.map es ck) → ∀ C, ¬ Blk wy k C 70 := fun k es ck hm C hC => hC.noMap hm rfl
  have hsubn : ∀ k C', Blk wy k C' 69 → ∀ C, ¬ Blk wy k C 70 := fun k C' hk C hC => hC.apart hk (by decide) rfl
  have hL2 : Blk w2 L (ledC nm dm sm vs vq) 59 := (hb2 L hLlt hLq).trans h.led
  have hL3 := (hL2.set 12 (.slice (some ⟨g, 0, none⟩) (Q.length + 1) cap)).alloc o2
  have hL4 : Blk w4 L (ledC nm dm sm vs (.slice (some ⟨g, 0, none⟩) (Q.length + 1) cap)) 59 := (hg2.block L (by simp; omega) (fun e => hLs e.symm)).trans hL3
  refine ⟨⟨?_, Or.inl h.fL, Or.inl h.fdm, Or.inl h.fsm, ?_, h.set, ?_, h.dms, ?_, ?_, ?_, ?_, ?_, ?_, ?_, ?_, ?_⟩, ?_, by omega, ?_, ?_, ?_, ?_, ?_⟩
  · exact hL4.set 10 _
  · rw [hbn dm h.fdm (fun e => h.led.noMap h.dmap e.symm) (hmapn dm _ _ h.dmap)]
    exact h.dmap
  · rw [hbn sm h.fsm (fun e => h.led.noMap h.smap e.symm) (hmapn sm _ _ h.smap)]
    exact h.smap
  · have hs5 := owns_of_block (w' := w4.setCell ⟨L, 10, none⟩ (.slice (some ⟨g2, 0, none⟩) (T.length + 1) cap2)) hs4 (fun k hk => by
      obtain rfl : g2 = k := by simpa [Value.ownBlock] using hk
      exact Below.heap_setCell _ _ _ _ hg2L)
    simpa using hs5
  · have hq5 := owns_of_block (w' := w4.setCell ⟨L, 10, none⟩ (.slice (some ⟨g2, 0, none⟩) (T.length + 1) cap2)) hq2 (fun k hk => by
      obtain rfl : g = k := by simpa [Value.ownBlock] using hk
      exact hb5 g hgl hgL hgs)
    rw [qel_push h.len h.qlt, List.map_append, List.length_append]
    exact hq5
  · intro k hk
    obtain rfl : g2 = k := by simpa [Value.ownBlock] using hk
    exact Or.inr (Or.inr (Or.inr rfl))
  · intro k hk
    obtain rfl : g = k := by simpa [Value.ownBlock] using hk
    exact Or.inr (Or.inr (Or.inl rfl))
  · intro k hk e
    obtain rfl : g2 = k := by simpa [Value.ownBlock] using hk
    exact hgg2 (by simpa [Value.ownBlock] using e.symm)
  · simp [h.len]
  · intro i q hq
    by_cases hi : i < ps.length
    · rw [List.getElem?_append_left hi] at hq
      obtain ⟨k1, k2⟩ := h.sub i q hq
      rw [teamAt_old (by rw [← h.len]; exact hi)]
      exact ⟨Or.inl k1, (hbn q k1 (k2.apart h.led (by decide)) (hsubn q _ k2)).trans k2⟩
    · have hi2 : i = ps.length := by
        have := (List.getElem?_eq_some_iff.1 hq).1
        simp at this
        omega
      subst hi2
      rw [List.getElem?_append_right (Nat.le_refl _)] at hq
      simp at hq
      subst hq
      refine ⟨Or.inr (Or.inl rfl), ?_⟩
      rw [h.len, teamAt_new]
      refine (hby p hp.lt (hp.apart h.led (by decide)) (fun e => ?_) (fun e => ?_)).trans hp
      · obtain ⟨C, hC⟩ := oldq p e
        exact hC.apart hp (by decide) rfl
      · obtain ⟨C, hC⟩ := olds p e
        exact hC.apart hp (by decide) rfl
  · intro i hi
    rw [List.length_append, List.length_singleton]
    rcases List.mem_append.1 hi with h1 | h1
    · have := h.qlt i h1
      omega
    · simp at h1
      omega
  · intro k hk
    rw [World.size_setCell]
    rcases hk with h1 | rfl | rfl | rfl
    · have := h.below k h1
      omega
    · have := hp.lt
      omega
    · omega
    · exact hg2l
  · intro k hk hF
    exact hby k hk (fun e => hF (e ▸ h.fL)) (fun e => hF (h.fq k e)) (fun e => hF (h.fs k e))
  · exact hg2.os.trans hg1.os
  · exact hg2.tape.trans hg1.tape
  · exact hg2.output.trans hg1.output
  · rcases hat1 with e | e
    · exact Or.inl (h.fq g e)
    · exact Or.inr (by omega)
  · rcases hat2 with e | e
    · exact Or.inl (h.fs g2 e)
    · exact Or.inr (by omega)
end Go.Proofs.Qxb6616853a
