import Derived.Test.Qxb6616853aFmtJdg
namespace Go.Proofs.Qxb6616853aFmt
open Go.RowKit

theorem subAt_old {T : List PSub} {s : PSub} {i : Nat} (h : i < T.length) : subAt (T ++ [s]) i = subAt T i := by
  unfold subAt
  rw [List.getD_eq_getElem?_getD, List.getD_eq_getElem?_getD, List.getElem?_append_left h]
theorem subAt_new {T : List PSub} {s : PSub} : subAt (T ++ [s]) T.length = s := by
  unfold subAt
  rw [List.getD_eq_getElem?_getD, List.getElem?_append_right (Nat.le_refl _)]
  simp
theorem getD_old {ps : List Nat} {p i : Nat} (h : i < ps.length) : (ps ++ [p]).getD i 0 = ps.getD i 0 := by
  rw [List.getD_eq_getElem?_getD, List.getD_eq_getElem?_getD, List.getElem?_append_left h]
theorem getD_new {ps : List Nat} {p : Nat} : (ps ++ [p]).getD ps.length 0 = p := by
  rw [List.getD_eq_getElem?_getD, List.getElem?_append_right (Nat.le_refl _)]
  simp

theorem qel_old {ps : List Nat} {T : List PSub} {Q : List Nat} {p : Nat} {s : PSub} (hl : ps.length = T.length) (hq : ∀ i ∈ Q, i < T.length) : Q.map (qel (ps ++ [p]) (T ++ [s])) = Q.map (qel ps T) := by
  apply List.map_congr_left
  intro i hi
  have := hq i hi
  unfold qel
  rw [subAt_old this, getD_old (by omega)]
theorem qel_push {ps : List Nat} {T : List PSub} {Q : List Nat} {p : Nat} {s : PSub} (hl : ps.length = T.length) (hq : ∀ i ∈ Q, i < T.length) : (Q ++ [T.length]).map (qel (ps ++ [p]) (T ++ [s])) = Q.map (qel ps T) ++ [(p, s.team)] := by
  rw [List.map_append, qel_old hl hq]
  congr 1
  simp only [List.map_cons, List.map_nil]
  unfold qel
  rw [subAt_new, ← hl, getD_new]
theorem recV_old {ps : List Nat} {R : List (Nat × Int)} {p : Nat} (hr : ∀ x ∈ R, x.1 < ps.length) : R.flatMap (recV (ps ++ [p])) = R.flatMap (recV ps) := by
  induction R with
  | nil => rfl
  | cons x R ih =>
    rw [List.flatMap_cons, List.flatMap_cons, ih (fun y hy => hr y (List.mem_cons_of_mem _ hy))]
    congr 1
    unfold recV
    rw [getD_old (hr x (List.mem_cons_self))]

/-- Behind the queue's part of a submission. -/
structure QSt (wy w3 : World) (F : Nat → Prop) (L : Nat) (m : PLed) (x : LM) (vq' : Value) (Q' : List Nat) (p : Nat) (s : PSub) : Prop where
  led : Blk w3 L (ledC m x.dm x.sm x.vs vq' x.vr) 108
  row : w3.ownsRow 0 110 1 vq' Q'.length ((Q'.map (qel (x.ps ++ [p]) (m.subs ++ [s]))).map pv)
  keep : ∀ k, k < wy.heap.size → k ≠ L → x.vq.ownBlock ≠ some k → w3.heap[k]? = wy.heap[k]?
  fq : ∀ k, vq'.ownBlock = some k → F k ∨ wy.heap.size ≤ k
  ap : ∀ k, x.vs.ownBlock = some k → vq'.ownBlock ≠ some k
  size : wy.heap.size ≤ w3.heap.size
  os : w3.os = wy.os
  tape : w3.tape = wy.tape
  output : w3.output = wy.output

/-- Not queued. -/
theorem QSt.kept {wy : World} {F : Nat → Prop} {L : Nat} {m : PLed} {x : LM} {p : Nat} {s : PSub} (h : LedAt wy F L m x) (hq : ∀ i ∈ m.queue, i < m.subs.length) : QSt wy wy F L m x x.vq m.queue p s :=
  ⟨h.led, by rw [qel_old h.len hq]; exact h.queue, fun _ _ _ _ => rfl, fun k hk => Or.inl (h.fq k hk), h.apart, Nat.le_refl _, rfl, rfl, rfl⟩

/-- Queued: the queue's row at g, maybe new. -/
theorem QSt.push {wy w2 : World} {F : Nat → Prop} {L : Nat} {m : PLed} {x : LM} {p g cap : Nat} {s : PSub} {o1 : Obj} (h : LedAt wy F L m x) (hq : ∀ i ∈ m.queue, i < m.subs.length)
    (hq2 : w2.ownsRow 0 110 1 (.slice (some ⟨g, 0, none⟩) (m.queue.length + 1) cap) (m.queue.length + 1) ((m.queue.map (qel x.ps m.subs)).map pv ++ [ptrV p])) (hg1 : (wy.alloc o1).grownBy w2 x.vq.ownBlock) (hat1 : x.vq.ownBlock = some g ∨ g = wy.heap.size + 1) :
    QSt wy (w2.setCell ⟨L, 12, none⟩ (.slice (some ⟨g, 0, none⟩) (m.queue.length + 1) cap)) F L m x (.slice (some ⟨g, 0, none⟩) (m.queue.length + 1) cap) (m.queue ++ [m.subs.length]) p s := by
  have hz1 : wy.heap.size + 1 ≤ w2.heap.size := by simpa using hg1.size
  obtain ⟨Cg, hCg⟩ := owns_row hq2 (k := g) rfl
  have hLq : x.vq.ownBlock ≠ some L := owns_ne h.queue h.led (by decide)
  have hb2 : ∀ k, k < wy.heap.size → x.vq.ownBlock ≠ some k → w2.heap[k]? = wy.heap[k]? := fun k hk hne =>
    (hg1.block k (by simp; omega) (fun e => hne e.symm)).trans (Below.heap_alloc _ _ _ hk)
  have hL2 : Blk w2 L (ledC m x.dm x.sm x.vs x.vq x.vr) 108 := (hb2 L h.led.lt hLq).trans h.led
  have hgL : g ≠ L := hCg.apart hL2 (by decide)
  refine ⟨hL2.set 12 _, ?_, ?_, ?_, ?_, ?_, hg1.os, hg1.tape, hg1.output⟩
  · rw [qel_push h.len hq, List.map_append, List.length_append, List.length_singleton]
    refine owns_of_block hq2 (fun k hk => Below.heap_setCell _ _ _ _ ?_)
    obtain rfl : g = k := by simpa [Value.ownBlock] using hk
    exact hgL
  · intro k hk h1 h2
    exact (Below.heap_setCell _ _ _ _ h1).trans (hb2 k hk h2)
  · intro k hk
    obtain rfl : g = k := by simpa [Value.ownBlock] using hk
    rcases hat1 with e | e
    · exact Or.inl (h.fq g e)
    · exact Or.inr (by omega)
  · intro k hk e
    obtain rfl : g = k := by simpa [Value.ownBlock] using e
    rcases hat1 with e' | e'
    · exact h.apart g hk e'
    · have := h.below g (h.fs g hk)
      omega
  · rw [World.size_setCell]
    omega

set_option maxHeartbeats 1000000 in
/-- What is behind a submission: the submissions' row at g2, maybe new; the submission at p. -/
theorem LedAt.submit {w wy w3 w4 : World} {F : Nat → Prop} {L : Nat} {m : PLed} {x : LM} {p g2 cap2 : Nat} {s : PSub} {o2 : Obj} {vq' : Value} {Q' : List Nat}
    (h : LedAt wy F L m x) (hr : ∀ y ∈ m.recs, y.1 < m.subs.length) (hp : Blk wy p (subC L m.subs.length s) 112) (hpw : w.heap.size ≤ p) (hwy : Below w.heap.size w wy) (hq : QSt wy w3 F L m x vq' Q' p s)
    (hs4 : w4.ownsRow 0 110 1 (.slice (some ⟨g2, 0, none⟩) (m.subs.length + 1) cap2) (m.subs.length + 1) (x.ps.map ptrV ++ [ptrV p])) (hg2 : (w3.alloc o2).grownBy w4 x.vs.ownBlock) (hat2 : x.vs.ownBlock = some g2 ∨ g2 = w3.heap.size + 1) :
    LedAt (w4.setCell ⟨L, 10, none⟩ (.slice (some ⟨g2, 0, none⟩) (m.subs.length + 1) cap2)) (fun k => F k ∨ k = p ∨ k = g2 ∨ vq'.ownBlock = some k) L { m with subs := m.subs ++ [s], queue := Q' } { x with vs := .slice (some ⟨g2, 0, none⟩) (m.subs.length + 1) cap2, vq := vq', ps := x.ps ++ [p] } ∧
    Framed w F (w4.setCell ⟨L, 10, none⟩ (.slice (some ⟨g2, 0, none⟩) (m.subs.length + 1) cap2)) (fun k => F k ∨ k = p ∨ k = g2 ∨ vq'.ownBlock = some k) := by
  have hLlt := h.led.lt
  have hz3 := hq.size
  have hz4 : w3.heap.size + 1 ≤ w4.heap.size := by simpa using hg2.size
  obtain ⟨Cg2, hCg2⟩ := owns_row hs4 (k := g2) rfl
  have hg2l := hCg2.lt
  have hLs : x.vs.ownBlock ≠ some L := owns_ne h.subs h.led (by decide)
  have hg2L : g2 ≠ L := by
    rcases hat2 with e | e
    · exact fun e' => hLs (e' ▸ e)
    · have := hq.led.lt
      omega
  have hqg2 : vq'.ownBlock ≠ some g2 := fun e => by
    rcases hat2 with e' | e'
    · exact hq.ap g2 e' e
    · obtain ⟨C, hC⟩ := owns_row hq.row e
      have := hC.lt
      omega
  have hb4 : ∀ k, k < w3.heap.size → x.vs.ownBlock ≠ some k → w4.heap[k]? = w3.heap[k]? := fun k hk hns =>
    (hg2.block k (by simp; omega) (fun e => hns e.symm)).trans (Below.heap_alloc _ _ _ hk)
  have hb5 : ∀ k, k < w3.heap.size → k ≠ L → x.vs.ownBlock ≠ some k → (w4.setCell ⟨L, 10, none⟩ (.slice (some ⟨g2, 0, none⟩) (m.subs.length + 1) cap2)).heap[k]? = w3.heap[k]? := fun k hk hne hns =>
    (Below.heap_setCell _ _ _ _ hne).trans (hb4 k hk hns)
  have hby : ∀ k, k < wy.heap.size → k ≠ L → x.vq.ownBlock ≠ some k → x.vs.ownBlock ≠ some k → (w4.setCell ⟨L, 10, none⟩ (.slice (some ⟨g2, 0, none⟩) (m.subs.length + 1) cap2)).heap[k]? = wy.heap[k]? := fun k hk h1 h2 h3 =>
    (hb5 k (by omega) h1 h3).trans (hq.keep k hk h1 h2)
  have hL4 : Blk w4 L (ledC m x.dm x.sm x.vs vq' x.vr) 108 := (hb4 L hq.led.lt hLs).trans hq.led
  have hnq : ∀ k C t, Blk wy k C t → 110 ≠ t → x.vq.ownBlock ≠ some k := fun k C t hk ht => owns_ne h.queue hk ht
  have hns : ∀ k C t, Blk wy k C t → 110 ≠ t → x.vs.ownBlock ≠ some k := fun k C t hk ht => owns_ne h.subs hk ht
  refine ⟨⟨?_, Or.inl h.fL, Or.inl h.fdm, Or.inl h.fsm, ?_, h.set, ?_, h.sol, h.dms, ?_, ?_, ?_, ?_, ?_, ?_, ?_, ?_, ?_, ?_⟩, ⟨?_, ?_, ?_, ?_, ?_, ?_⟩⟩
  · exact hL4.set 10 _
  · rw [hby x.dm (h.below _ h.fdm) (Ne.symm (h.led.noMap h.dmap)) (owns_noMap h.queue h.dmap) (owns_noMap h.subs h.dmap)]
    exact h.dmap
  · rw [hby x.sm (h.below _ h.fsm) (Ne.symm (h.led.noMap h.smap)) (owns_noMap h.queue h.smap) (owns_noMap h.subs h.smap)]
    exact h.smap
  · have hs5 := owns_of_block (w' := w4.setCell ⟨L, 10, none⟩ (.slice (some ⟨g2, 0, none⟩) (m.subs.length + 1) cap2)) hs4 (fun k hk => by
      obtain rfl : g2 = k := by simpa [Value.ownBlock] using hk
      exact Below.heap_setCell _ _ _ _ hg2L)
    simpa using hs5
  · refine owns_of_block hq.row (fun k hk => ?_)
    obtain ⟨C, hC⟩ := owns_row hq.row hk
    exact hb5 k hC.lt (hC.apart hq.led (by decide)) (fun e => hq.ap k e hk)
  · have hr5 := owns_of_block (w' := w4.setCell ⟨L, 10, none⟩ (.slice (some ⟨g2, 0, none⟩) (m.subs.length + 1) cap2)) h.recs (fun k hk => by
      obtain ⟨C, hC⟩ := owns_row h.recs hk
      exact hby k hC.lt (hC.apart h.led (by decide)) (hnq k C _ hC (by decide)) (hns k C _ hC (by decide)))
    show (w4.setCell ⟨L, 10, none⟩ _).ownsRow 0 114 2 x.vr m.recs.length (m.recs.flatMap (recV (x.ps ++ [p])))
    rw [recV_old (fun y hy => by rw [h.len]; exact hr y hy)]
    exact hr5
  · intro k hk
    obtain rfl : g2 = k := by simpa [Value.ownBlock] using hk
    exact Or.inr (Or.inr (Or.inl rfl))
  · intro k hk
    exact Or.inr (Or.inr (Or.inr hk))
  · intro k hk
    exact Or.inl (h.fr k hk)
  · intro k hk e
    obtain rfl : g2 = k := by simpa [Value.ownBlock] using hk
    exact hqg2 e
  · simp [h.len]
  · intro i q hq'
    show _ ∧ Blk _ q (subC L i (subAt (m.subs ++ [s]) i)) 112
    by_cases hi : i < x.ps.length
    · have hq2 : x.ps[i]? = some q := by
        have := hq'
        rw [List.getElem?_append_left hi] at this
        exact this
      obtain ⟨k1, k2⟩ := h.sub i q hq2
      rw [subAt_old (by rw [← h.len]; exact hi)]
      exact ⟨Or.inl k1, (hby q (h.below q k1) (k2.apart h.led (by decide)) (hnq q _ _ k2 (by decide)) (hns q _ _ k2 (by decide))).trans k2⟩
    · have hi2 : i = x.ps.length := by
        have := (List.getElem?_eq_some_iff.1 hq').1
        simp at this
        omega
      subst hi2
      have hq2 := hq'
      rw [List.getElem?_append_right (Nat.le_refl _)] at hq2
      simp at hq2
      subst hq2
      refine ⟨Or.inr (Or.inl rfl), ?_⟩
      rw [h.len, subAt_new]
      exact (hby p hp.lt (hp.apart h.led (by decide)) (hnq p _ _ hp (by decide)) (hns p _ _ hp (by decide))).trans hp
  · intro k hk
    rw [World.size_setCell]
    rcases hk with h1 | rfl | rfl | h1
    · have := h.below k h1
      omega
    · have := hp.lt
      omega
    · exact hg2l
    · obtain ⟨C, hC⟩ := owns_row hq.row h1
      have := hC.lt
      omega
  · exact (hg2.os.trans hq.os).trans hwy.os
  · exact (hg2.tape.trans hq.tape).trans hwy.tape
  · exact (hg2.output.trans hq.output).trans hwy.output
  · have := hwy.size
    rw [World.size_setCell]
    omega
  · intro k hk hF
    have := hwy.size
    rw [hby k (by omega) (fun e => hF (e ▸ h.fL)) (fun e => hF (h.fq k e)) (fun e => hF (h.fs k e)), hwy.block k hk]
  · intro k hk
    have := hwy.size
    rcases hk with h1 | rfl | rfl | h1
    · exact Or.inl h1
    · exact Or.inr hpw
    · rcases hat2 with e | e
      · exact Or.inl (h.fs _ e)
      · exact Or.inr (by omega)
    · rcases hq.fq k h1 with h2 | h2
      · exact Or.inl h2
      · exact Or.inr (by omega)
end Go.Proofs.Qxb6616853aFmt
