import Derived.Test.Qxb6616853aFmtErr
import Derived.Deep.AppendLies
namespace Go.Proofs.Qxb6616853aFmt
open Go.RowKit
open Go.ChangeMaps (setBlock)

/-- The queue's row has turned in place, and its cell in the ledger. -/
theorem LedAt.requeue {w w3 : World} {F : Nat → Prop} {L : Nat} {m : PLed} {x : LM} {Q' : List Nat} {v' : Value}
    (h : LedAt w F L m x) (hq : w3.ownsRow 0 110 1 v' Q'.length ((Q'.map (qel x.ps m.subs)).map pv)) (hv : v'.ownBlock = x.vq.ownBlock)
    (hg : w.grownBy w3 x.vq.ownBlock) :
    LedAt (w3.setCell ⟨L, 12, none⟩ v') F L { m with queue := Q' } { x with vq := v' } ∧ Framed w F (w3.setCell ⟨L, 12, none⟩ v') F := by
  have hb : ∀ k, k < w.heap.size → x.vq.ownBlock ≠ some k → w3.heap[k]? = w.heap[k]? := fun k h1 h2 => hg.block k h1 (fun e => h2 e.symm)
  have hLq : x.vq.ownBlock ≠ some L := owns_ne h.queue h.led (by decide)
  have hL3 : Blk w3 L (ledC m x.dm x.sm x.vs x.vq x.vr) 108 := (hb L (h.below L h.fL) hLq).trans h.led
  have hset : ∀ k, k ≠ L → (w3.setCell ⟨L, 12, none⟩ v').heap[k]? = w3.heap[k]? := fun k hk => Below.heap_setCell w3 ⟨L, 12, none⟩ v' k hk
  have hbk : ∀ k, k < w.heap.size → x.vq.ownBlock ≠ some k → k ≠ L → (w3.setCell ⟨L, 12, none⟩ v').heap[k]? = w.heap[k]? := fun k h1 h3 h4 => (hset k h4).trans (hb k h1 h3)
  refine ⟨⟨?_, h.fL, h.fdm, h.fsm, ?_, h.set, ?_, h.sol, h.dms, ?_, ?_, ?_, h.fs, ?_, h.fr, ?_, h.len, ?_, ?_⟩, ⟨hg.os, hg.tape, hg.output, by simpa using hg.size, ?_, fun k hk => Or.inl hk⟩⟩
  · exact hL3.set 12 v'
  · rw [hbk x.dm (h.below x.dm h.fdm) (owns_noMap h.queue h.dmap) (Ne.symm (h.led.noMap h.dmap))]
    exact h.dmap
  · rw [hbk x.sm (h.below x.sm h.fsm) (owns_noMap h.queue h.smap) (Ne.symm (h.led.noMap h.smap))]
    exact h.smap
  · refine owns_of_block h.subs (fun k hk => ?_)
    obtain ⟨C, hC⟩ := owns_row h.subs hk
    exact hbk k (h.below k (h.fs k hk)) (h.apart k hk) (hC.apart h.led (by decide))
  · refine owns_of_block hq (fun k hk => hset k ?_)
    obtain ⟨C, hC⟩ := owns_row h.queue (hv ▸ hk)
    exact hC.apart h.led (by decide)
  · refine owns_of_block h.recs (fun k hk => ?_)
    obtain ⟨C, hC⟩ := owns_row h.recs hk
    exact hbk k (h.below k (h.fr k hk)) (owns_ne h.queue hC (by decide)) (hC.apart h.led (by decide))
  · intro k hk
    exact h.fq k (hv ▸ hk)
  · intro k hk
    rw [hv]
    exact h.apart k hk
  · intro i p hp
    obtain ⟨h1, h2⟩ := h.sub i p hp
    exact ⟨h1, (hbk p (h.below p h1) (owns_ne h.queue h2 (by decide)) (h2.apart h.led (by decide))).trans h2⟩
  · intro k hk
    exact Nat.lt_of_lt_of_le (h.below k hk) (by simpa using hg.size)
  · intro k hk hF
    exact hbk k hk (fun e => hF (h.fq k e)) (fun e => hF (e ▸ h.fL))

/-- The solved tasks' map has turned. -/
theorem LedAt.resolve {w w' : World} {F : Nat → Prop} {L : Nat} {m : PLed} {x : LM} {K' : List (ByteArray × Int)} {es' : Array MapEntry} {ck' : Nat}
    (h : LedAt w F L m x) (hs : SolMap es' K') (hm : w'.heap[x.sm]? = some (.map es' ck')) (hb : ∀ k, k ≠ x.sm → w'.heap[k]? = w.heap[k]?) (hz : w'.heap.size = w.heap.size) (ho : w'.os = w.os ∧ w'.tape = w.tape ∧ w'.output = w.output) :
    LedAt w' F L { m with solved := K' } { x with es2 := es', ck2 := ck' } ∧ Framed w F w' F := by
  refine ⟨⟨(hb L (h.led.noMap h.smap)).trans h.led, h.fL, h.fdm, h.fsm, (hb x.dm h.dms).trans h.dmap, h.set, hm, hs, h.dms, ?_, ?_, ?_, h.fs, h.fq, h.fr, h.apart, h.len, ?_, ?_⟩, ⟨ho.1, ho.2.1, ho.2.2, by omega, ?_, fun k hk => Or.inl hk⟩⟩
  · exact owns_of_block h.subs (fun k hk => hb k (fun e => owns_noMap h.subs h.smap (e ▸ hk)))
  · exact owns_of_block h.queue (fun k hk => hb k (fun e => owns_noMap h.queue h.smap (e ▸ hk)))
  · exact owns_of_block h.recs (fun k hk => hb k (fun e => owns_noMap h.recs h.smap (e ▸ hk)))
  · intro i p hp
    obtain ⟨h1, h2⟩ := h.sub i p hp
    exact ⟨h1, (hb p (h2.noMap h.smap)).trans h2⟩
  · intro k hk
    rw [hz]
    exact h.below k hk
  · intro k hk hF
    exact hb k (fun e => hF (e ▸ h.fsm))

/-- A record more: its row at g, maybe new. -/
theorem LedAt.record {w w4 : World} {F : Nat → Prop} {L : Nat} {m : PLed} {x : LM} {r : Nat × Int} {g cap : Nat} {o : Obj}
    (h : LedAt w F L m x) (hr : w4.ownsRow 0 114 2 (.slice (some ⟨g, 0, none⟩) (m.recs.length + 1) cap) (m.recs.length + 1) (m.recs.flatMap (recV x.ps) ++ recV x.ps r)) (hg : (w.alloc o).grownBy w4 x.vr.ownBlock) (hat : x.vr.ownBlock = some g ∨ g = w.heap.size + 1) :
    LedAt (w4.setCell ⟨L, 13, none⟩ (.slice (some ⟨g, 0, none⟩) (m.recs.length + 1) cap)) (fun k => F k ∨ k = g) L { m with recs := m.recs ++ [r] } { x with vr := .slice (some ⟨g, 0, none⟩) (m.recs.length + 1) cap } ∧
    Framed w F (w4.setCell ⟨L, 13, none⟩ (.slice (some ⟨g, 0, none⟩) (m.recs.length + 1) cap)) (fun k => F k ∨ k = g) := by
  have hz : w.heap.size + 1 ≤ w4.heap.size := by simpa using hg.size
  obtain ⟨Cg, hCg⟩ := owns_row hr (k := g) rfl
  have hb : ∀ k, k < w.heap.size → x.vr.ownBlock ≠ some k → w4.heap[k]? = w.heap[k]? := fun k h1 h2 =>
    (hg.block k (by simp; omega) (fun e => h2 e.symm)).trans (Below.heap_alloc _ _ _ h1)
  have hLr : x.vr.ownBlock ≠ some L := owns_ne h.recs h.led (by decide)
  have hLlt := h.led.lt
  have hL4 : Blk w4 L (ledC m x.dm x.sm x.vs x.vq x.vr) 108 := (hb L hLlt hLr).trans h.led
  have hgL : g ≠ L := hCg.apart hL4 (by decide)
  have hset : ∀ k, k ≠ L → (w4.setCell ⟨L, 13, none⟩ (.slice (some ⟨g, 0, none⟩) (m.recs.length + 1) cap)).heap[k]? = w4.heap[k]? := fun k hk => Below.heap_setCell w4 _ _ k hk
  have hbk : ∀ k, k < w.heap.size → x.vr.ownBlock ≠ some k → k ≠ L → (w4.setCell ⟨L, 13, none⟩ (.slice (some ⟨g, 0, none⟩) (m.recs.length + 1) cap)).heap[k]? = w.heap[k]? := fun k h1 h3 h4 => (hset k h4).trans (hb k h1 h3)
  refine ⟨⟨?_, Or.inl h.fL, Or.inl h.fdm, Or.inl h.fsm, ?_, h.set, ?_, h.sol, h.dms, ?_, ?_, ?_, fun k hk => Or.inl (h.fs k hk), fun k hk => Or.inl (h.fq k hk), ?_, h.apart, h.len, ?_, ?_⟩, ⟨hg.os, hg.tape, hg.output, by simp; omega, ?_, ?_⟩⟩
  · exact hL4.set 13 _
  · rw [hbk x.dm (h.below x.dm h.fdm) (owns_noMap h.recs h.dmap) (Ne.symm (h.led.noMap h.dmap))]
    exact h.dmap
  · rw [hbk x.sm (h.below x.sm h.fsm) (owns_noMap h.recs h.smap) (Ne.symm (h.led.noMap h.smap))]
    exact h.smap
  · refine owns_of_block h.subs (fun k hk => ?_)
    obtain ⟨C, hC⟩ := owns_row h.subs hk
    exact hbk k (h.below k (h.fs k hk)) (owns_ne h.recs hC (by decide)) (hC.apart h.led (by decide))
  · refine owns_of_block h.queue (fun k hk => ?_)
    obtain ⟨C, hC⟩ := owns_row h.queue hk
    exact hbk k (h.below k (h.fq k hk)) (owns_ne h.recs hC (by decide)) (hC.apart h.led (by decide))
  · have := owns_of_block (w' := w4.setCell ⟨L, 13, none⟩ (.slice (some ⟨g, 0, none⟩) (m.recs.length + 1) cap)) hr (fun k hk => hset k (by
      obtain rfl : g = k := by simpa [Value.ownBlock] using hk
      exact hgL))
    rw [List.length_append, List.length_singleton, List.flatMap_append]
    simpa using this
  · intro k hk
    obtain rfl : g = k := by simpa [Value.ownBlock] using hk
    exact Or.inr rfl
  · intro i p hp
    obtain ⟨h1, h2⟩ := h.sub i p hp
    exact ⟨Or.inl h1, (hbk p (h.below p h1) (owns_ne h.recs h2 (by decide)) (h2.apart h.led (by decide))).trans h2⟩
  · intro k hk
    rw [World.size_setCell]
    rcases hk with h1 | rfl
    · have := h.below k h1
      omega
    · exact hCg.lt
  · intro k hk hF
    exact hbk k hk (fun e => hF (h.fr k e)) (fun e => hF (e ▸ h.fL))
  · rintro k (h1 | rfl)
    · exact Or.inl h1
    · rcases hat with e | e
      · exact Or.inl (h.fr k e)
      · exact Or.inr (by omega)

/-- The queue without k. -/
theorem queue_found {Q : List Nat} {r k : Nat} (hs : Q.Pairwise (· < ·)) (hr : Q[r]? = some k) : Q.filter (fun i => i != k) = Q.eraseIdx r := by
  induction Q generalizing r with
  | nil => simp at hr
  | cons q Q ih =>
    rw [List.pairwise_cons] at hs
    rcases r with _ | r
    · simp at hr
      subst hr
      rw [List.eraseIdx_cons_zero, List.filter_cons_of_neg (by simp)]
      apply List.filter_eq_self.2
      intro a ha
      have := hs.1 a ha
      simp
      omega
    · rw [List.getElem?_cons_succ] at hr
      have := hs.1 k (List.mem_of_getElem? hr)
      rw [List.eraseIdx_cons_succ, List.filter_cons_of_pos (by simp; omega), ih hs.2 hr]

theorem queue_missed {Q : List Nat} {r k : Nat} (hs : Q.Pairwise (· < ·)) (hlo : ∀ t q, t < r → Q[t]? = some q → q < k) (hhi : ∀ t q, r ≤ t → Q[t]? = some q → k ≤ q) (hr : ¬ Q[r]? = some k) : Q.filter (fun i => i != k) = Q := by
  apply List.filter_eq_self.2
  intro a ha
  obtain ⟨t, ht⟩ := List.getElem?_of_mem ha
  simp
  intro e
  subst e
  by_cases h1 : t < r
  · have := hlo t a h1 ht
    omega
  · by_cases h2 : t = r
    · exact hr (h2 ▸ ht)
    · obtain ⟨b, hb⟩ : ∃ b, Q[r]? = some b := ⟨_, List.getElem?_eq_getElem (by have := (List.getElem?_eq_some_iff.1 ht).1; omega)⟩
      have := sorted_before hs hb ht (by omega)
      have := hhi r b (Nat.le_refl _) hb
      omega

theorem map_eraseIdx' {α β : Type} (f : α → β) : ∀ (l : List α) (i : Nat), (l.eraseIdx i).map f = (l.map f).eraseIdx i
  | [], i => by simp
  | a :: l, 0 => by simp
  | a :: l, i + 1 => by simp [map_eraseIdx' f l i]

end Go.Proofs.Qxb6616853aFmt
