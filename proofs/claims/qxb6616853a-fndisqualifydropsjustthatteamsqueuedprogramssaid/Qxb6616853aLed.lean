import Derived.Test.Qxb6616853aDel2
namespace Go.Proofs.Qxb6616853a
open Go.RowKit
open Go.ChangeMaps (setBlock)

/-- A submission's cells. -/
def subC (L : Nat) (id : Int) (team : ByteArray) : Array Value :=
  #[.pointer (some ⟨L, 0, none⟩), .int .i64 id, .string team, .string ByteArray.empty, .int .i64 0, .string ByteArray.empty, .int .i64 0, .int .i64 0, .int .i64 0, .bool true]

def ptrV (p : Nat) : Value := .pointer (some ⟨p, 0, none⟩)
def teamAt (T : List ByteArray) (i : Nat) : ByteArray := T.getD i ByteArray.empty
def qel (ps : List Nat) (T : List ByteArray) (i : Nat) : Nat × ByteArray := (ps.getD i 0, teamAt T i)

/-- The ledger at block L of w: F its blocks, D the disqualified, T the submissions' teams, Q the queue (places in T). -/
structure LedAt (w : World) (F : Nat → Prop) (L : Nat) (nm : ByteArray) (D T : List ByteArray) (Q : List Nat) (dm sm : Nat) (es : Array MapEntry) (ck : Nat) (vs vq : Value) (ps : List Nat) : Prop where
  led : Blk w L (ledC nm dm sm vs vq) 59
  fL : F L
  fdm : F dm
  fsm : F sm
  dmap : w.heap[dm]? = some (.map es ck)
  set : SetMap es D
  smap : w.heap[sm]? = some (.map #[] 0)
  dms : dm ≠ sm
  subs : w.ownsRow 0 70 1 vs T.length (ps.map ptrV)
  queue : w.ownsRow 0 70 1 vq Q.length ((Q.map (qel ps T)).map pv)
  fs : ∀ k, vs.ownBlock = some k → F k
  fq : ∀ k, vq.ownBlock = some k → F k
  apart : ∀ k, vs.ownBlock = some k → vq.ownBlock ≠ some k
  len : ps.length = T.length
  sub : ∀ (i p : Nat), ps[i]? = some p → F p ∧ Blk w p (subC L ((i : Int) + 1) (teamAt T i)) 69
  qlt : ∀ i ∈ Q, i < T.length
  below : ∀ k, F k → k < w.heap.size

def IsLed (w : World) (F : Nat → Prop) (L : Nat) (nm : ByteArray) (D T : List ByteArray) (Q : List Nat) : Prop := ∃ dm sm es ck vs vq ps, LedAt w F L nm D T Q dm sm es ck vs vq ps

theorem owns_of_block {w w' : World} {base : Nat} {e : TypeId} {size : Nat} {v : Value} {n : Nat} {xs : List Value} (h : w.ownsRow base e size v n xs) (hb : ∀ k, v.ownBlock = some k → w'.heap[k]? = w.heap[k]?) : w'.ownsRow base e size v n xs := by
  obtain ⟨h1, h2⟩ := h
  refine ⟨h1, ?_⟩
  rcases h2 with h2 | ⟨g, cap, cur, hv, hg, hh, r⟩
  · exact Or.inl h2
  · exact Or.inr ⟨g, cap, cur, hv, hg, by rw [hb g (by rw [hv]; rfl)]; exact hh, r⟩

theorem owns_form {w : World} {base : Nat} {e : TypeId} {size : Nat} {v : Value} {n : Nat} {xs : List Value} (h : w.ownsRow base e size v n xs) : ∃ a c, v = .slice a n c := by
  rcases h.2 with ⟨h1, h2⟩ | ⟨g, cap, cur, hv, _⟩
  · exact ⟨none, 0, by rw [h1, h2]⟩
  · exact ⟨_, _, hv⟩

/-- The row that a slice owns is a row of pointers. -/
theorem owns_row {w : World} {base : Nat} {e : TypeId} {size : Nat} {v : Value} {n : Nat} {xs : List Value} (h : w.ownsRow base e size v n xs) {k : Nat} (hk : v.ownBlock = some k) : ∃ C, Blk w k C e := by
  rcases h.2 with ⟨h1, _⟩ | ⟨g, cap, cur, hv, _, hg, _⟩
  · rw [h1] at hk
    simp [Value.ownBlock] at hk
  · rw [hv] at hk
    simp [Value.ownBlock] at hk
    subst hk
    exact ⟨cur, hg⟩

theorem Blk.apart {w : World} {g g' : Nat} {C C' : Array Value} {t t' : TypeId} (h : Blk w g C t) (h' : Blk w g' C' t') (ht : t ≠ t') : g ≠ g' := by
  intro e
  subst e
  unfold Blk at h h'
  rw [h] at h'
  simp at h'
  exact ht h'.2

theorem Blk.noMap {w : World} {g g' : Nat} {C : Array Value} {t : TypeId} {es : Array MapEntry} {ck : Nat} (h : Blk w g C t) (h' : w.heap[g']? = some (.map es ck)) : g ≠ g' := by
  intro e
  subst e
  unfold Blk at h
  rw [h] at h'
  simp at h'

theorem LedAt.frame {w w' : World} {F : Nat → Prop} {L : Nat} {nm : ByteArray} {D T : List ByteArray} {Q : List Nat} {dm sm : Nat} {es : Array MapEntry} {ck : Nat} {vs vq : Value} {ps : List Nat}
    (h : LedAt w F L nm D T Q dm sm es ck vs vq ps) (hb : ∀ k, F k → w'.heap[k]? = w.heap[k]?) (hs : w.heap.size ≤ w'.heap.size) : LedAt w' F L nm D T Q dm sm es ck vs vq ps where
  led := (hb L h.fL).trans h.led
  fL := h.fL
  fdm := h.fdm
  fsm := h.fsm
  dmap := (hb dm h.fdm).trans h.dmap
  set := h.set
  smap := (hb sm h.fsm).trans h.smap
  dms := h.dms
  subs := owns_of_block h.subs (fun k hk => hb k (h.fs k hk))
  queue := owns_of_block h.queue (fun k hk => hb k (h.fq k hk))
  fs := h.fs
  fq := h.fq
  apart := h.apart
  len := h.len
  sub := fun i p hp => ⟨(h.sub i p hp).1, (hb p (h.sub i p hp).1).trans (h.sub i p hp).2⟩
  qlt := h.qlt
  below := fun k hk => Nat.lt_of_lt_of_le (h.below k hk) hs

/-- w' is w but for the blocks F and new ones; F' lies in those. -/
structure Framed (w : World) (F : Nat → Prop) (w' : World) (F' : Nat → Prop) : Prop where
  os : w'.os = w.os
  tape : w'.tape = w.tape
  output : w'.output = w.output
  size : w.heap.size ≤ w'.heap.size
  block : ∀ k, k < w.heap.size → ¬ F k → w'.heap[k]? = w.heap[k]?
  inside : ∀ k, F' k → F k ∨ w.heap.size ≤ k

theorem Framed.below {w w' : World} {F F' : Nat → Prop} {B : Nat} {w0 : World} (h : Framed w F w' F') (hb : Below B w0 w) (hB : B ≤ w.heap.size) (hF : ∀ k, F k → B ≤ k) : Below B w0 w' :=
  hb.trans ⟨h.os, h.tape, h.output, h.size, fun k hk => h.block k (Nat.lt_of_lt_of_le hk hB) (fun hf => absurd (hF k hf) (by omega))⟩

theorem Framed.up {w w' : World} {F F' : Nat → Prop} {B : Nat} (h : Framed w F w' F') (hB : B ≤ w.heap.size) (hF : ∀ k, F k → B ≤ k) : ∀ k, F' k → B ≤ k := by
  intro k hk
  rcases h.inside k hk with h1 | h1
  · exact hF k h1
  · omega

/-- Another ledger that lies apart is as it was. -/
theorem IsLed.other {w w' : World} {F F' G : Nat → Prop} {L : Nat} {nm : ByteArray} {D T : List ByteArray} {Q : List Nat} (h : IsLed w G L nm D T Q) (hf : Framed w F w' F') (hd : ∀ k, F k → ¬ G k) : IsLed w' G L nm D T Q := by
  obtain ⟨dm, sm, es, ck, vs, vq, ps, h⟩ := h
  exact ⟨dm, sm, es, ck, vs, vq, ps, h.frame (fun k hk => hf.block k (h.below k hk) (fun hF => hd k hF hk)) hf.size⟩

theorem IsLed.apartStep {w w' : World} {F F' G : Nat → Prop} {L : Nat} {nm : ByteArray} {D T : List ByteArray} {Q : List Nat} (h : IsLed w G L nm D T Q) (hf : Framed w F w' F') (hd : ∀ k, F k → ¬ G k) : ∀ k, F' k → ¬ G k := by
  obtain ⟨dm, sm, es, ck, vs, vq, ps, h⟩ := h
  intro k hk hg
  rcases hf.inside k hk with h1 | h1
  · exact hd k h1 hg
  · exact absurd (h.below k hg) (by omega)

def LedPost (w : World) (F : Nat → Prop) (L : Nat) (nm : ByteArray) (D T : List ByteArray) (Q : List Nat) (e : Ending) (w' : World) : Prop :=
  e = .returned (.tuple #[]) ∧ ∃ F', IsLed w' F' L nm D T Q ∧ Framed w F w' F'

/-- The queue behind a disqualification. -/
def dropQ (T : List ByteArray) (code : ByteArray) (Q : List Nat) : List Nat := Q.filter fun i => !eqS (teamAt T i) code

theorem filter_qel (ps : List Nat) (T : List ByteArray) (code : ByteArray) (Q : List Nat) : (Q.map (qel ps T)).filter (keepB code) = (dropQ T code Q).map (qel ps T) := by
  unfold dropQ
  rw [List.filter_map]
  rfl

/-- What is behind a disqualification. -/
theorem LedAt.disq {w w3 : World} {F : Nat → Prop} {L : Nat} {nm : ByteArray} {D T : List ByteArray} {Q : List Nat} {dm sm : Nat} {es es' : Array MapEntry} {ck ck' : Nat} {vs vq v' : Value} {ps : List Nat} {code : ByteArray}
    (h : LedAt w F L nm D T Q dm sm es ck vs vq ps) (hs' : SetMap es' (addS D code)) (hq : w3.ownsRow 0 70 1 v' (dropQ T code Q).length (((dropQ T code Q).map (qel ps T)).map pv)) (hv : v'.ownBlock = vq.ownBlock)
    (hdm : w3.heap[dm]? = some (.map es' ck')) (hb : ∀ k, k < w.heap.size → k ≠ dm → vq.ownBlock ≠ some k → w3.heap[k]? = w.heap[k]?) (hsz : w.heap.size ≤ w3.heap.size) (hos : w3.os = w.os ∧ w3.tape = w.tape ∧ w3.output = w.output) :
    LedAt (w3.setCell ⟨L, 12, none⟩ v') F L nm (addS D code) T (dropQ T code Q) dm sm es' ck' vs v' ps ∧ Framed w F (w3.setCell ⟨L, 12, none⟩ v') F := by
  have hLd : L ≠ dm := h.led.noMap h.dmap
  have hLq : vq.ownBlock ≠ some L := fun e => by
    obtain ⟨C, hC⟩ := owns_row h.queue e
    exact hC.apart h.led (by decide) rfl
  have hL3 : Blk w3 L (ledC nm dm sm vs vq) 59 := (hb L (h.below L h.fL) hLd hLq).trans h.led
  have hset : ∀ k, k ≠ L → (w3.setCell ⟨L, 12, none⟩ v').heap[k]? = w3.heap[k]? := fun k hk => Below.heap_setCell w3 ⟨L, 12, none⟩ v' k hk
  have hbk : ∀ k, k < w.heap.size → k ≠ dm → vq.ownBlock ≠ some k → k ≠ L → (w3.setCell ⟨L, 12, none⟩ v').heap[k]? = w.heap[k]? := fun k h1 h2 h3 h4 => (hset k h4).trans (hb k h1 h2 h3)
  have hsm : sm ≠ L := fun e => h.led.noMap h.smap e.symm
  have hsq : vq.ownBlock ≠ some sm := fun e => by
    obtain ⟨C, hC⟩ := owns_row h.queue e
    exact hC.noMap h.smap rfl
  refine ⟨⟨?_, h.fL, h.fdm, h.fsm, ?_, hs', ?_, h.dms, ?_, ?_, h.fs, ?_, ?_, h.len, ?_, ?_, ?_⟩, ⟨hos.1, hos.2.1, hos.2.2, by simpa using hsz, ?_, fun k hk => Or.inl hk⟩⟩
  · exact hL3.set 12 v'
  · rw [hset dm (Ne.symm hLd)]
    exact hdm
  · rw [hbk sm (h.below sm h.fsm) (Ne.symm h.dms) hsq hsm]
    exact h.smap
  · refine owns_of_block h.subs (fun k hk => ?_)
    obtain ⟨C, hC⟩ := owns_row h.subs hk
    exact hbk k (h.below k (h.fs k hk)) (hC.noMap h.dmap) (h.apart k hk) (hC.apart h.led (by decide))
  · refine owns_of_block hq (fun k hk => hset k ?_)
    obtain ⟨C, hC⟩ := owns_row h.queue (hv ▸ hk)
    exact hC.apart h.led (by decide)
  · intro k hk
    exact h.fq k (hv ▸ hk)
  · intro k hk
    rw [hv]
    exact h.apart k hk
  · intro i p hp
    obtain ⟨h1, h2⟩ := h.sub i p hp
    refine ⟨h1, ?_⟩
    have : vq.ownBlock ≠ some p := fun e => by
      obtain ⟨C, hC⟩ := owns_row h.queue e
      exact hC.apart h2 (by decide) rfl
    exact (hbk p (h.below p h1) (h2.noMap h.dmap) this (h2.apart h.led (by decide))).trans h2
  · intro i hi
    exact h.qlt i ((List.mem_filter.1 hi).1)
  · intro k hk
    exact Nat.lt_of_lt_of_le (h.below k hk) (by simpa using hsz)
  · intro k hk hF
    exact hbk k hk (fun e => hF (e ▸ h.fdm)) (fun e => hF (h.fq k e)) (fun e => hF (e ▸ h.fL))

end Go.Proofs.Qxb6616853a
