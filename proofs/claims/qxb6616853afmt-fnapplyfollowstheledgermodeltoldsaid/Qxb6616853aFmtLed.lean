import Derived.Test.Qxb6616853aFmtOk
namespace Go.Proofs.Qxb6616853aFmt
open Go.RowKit
open Go.ChangeMaps (setBlock)

/-- A ledger's cells. -/
def ledC (m : PLed) (dm sm : Nat) (vs vq vr : Value) : Array Value :=
  #[.string m.name, .map (some dm), .int .u64 (nsOf m.st), .int .i64 (scOf m.st), .pointer none, .int .u64 (nsOf m.en), .int .i64 (scOf m.en), .pointer none, .int .i64 m.fz, .bool m.fzs, vs, .map (some sm), vq, vr, .bool m.fro, .int .i64 m.shown]

/-- A submission's cells. -/
def subC (L i : Nat) (s : PSub) : Array Value :=
  #[.pointer (some ⟨L, 0, none⟩), .int .i64 ((i : Int) + 1), .string s.team, .string s.tid, .int .i64 s.task, .string s.comp, .int .i64 s.off, .int .i64 s.size, .int .i64 s.mins, .bool s.cnt]

def ptrV (p : Nat) : Value := .pointer (some ⟨p, 0, none⟩)
def qel (ps : List Nat) (T : List PSub) (i : Nat) : Nat × ByteArray := (ps.getD i 0, (subAt T i).team)
def recV (ps : List Nat) (x : Nat × Int) : List Value := [ptrV (ps.getD x.1 0), .int .i64 x.2]

/-- The solved tasks' map. -/
def SolMap (es : Array MapEntry) (K : List (ByteArray × Int)) : Prop := KMap encK goodK es K (K.map fun _ => .bool true)

theorem SolMap.lookup {w : World} {b ck : Nat} {es : Array MapEntry} {K : List (ByteArray × Int)} (h : SolMap es K) (hb : w.heap[b]? = some (.map es ck)) {t : ByteArray} {n : Int} (ht : t.size ≤ maxLen) (hn : I64 n) :
    (Instr.lookup 103 (.map (some b)) (.agg #[.string t, .int .i64 n]) false).run Tryf.prog w = .ok (.bool (memK K t n)) w := by
  rcases KMap.lookup (z := .bool false) Tryf.underlying103 keyK h (fun w => by kernel_rfl) hb (a := (t, n)) ⟨ht, hn⟩ with ⟨h1, h2⟩ | ⟨j, v, h1, h2, h3⟩
  · have : memK K t n = false := by rw [Bool.eq_false_iff]; exact fun e => h1 (memK_iff.1 e)
    rw [this]
    exact h2 false
  · have : memK K t n = true := memK_iff.2 (List.mem_of_getElem? h1)
    rw [this]
    rw [List.getElem?_map, h1] at h2
    simp at h2
    subst h2
    exact h3 false

theorem SolMap.update {es : Array MapEntry} {K : List (ByteArray × Int)} (h : SolMap es K) {t : ByteArray} {n : Int} (ht : t.size ≤ maxLen) (hn : I64 n) {ck : Nat} :
    ∃ es' ck', (∀ (w : World) (b : Nat), w.heap[b]? = some (.map es ck) → (Instr.mapUpdate 103 (.map (some b)) (.agg #[.string t, .int .i64 n]) (.bool true)).run Tryf.prog w = .ok () (setBlock w b (.map es' ck'))) ∧ SolMap es' (addK K t n) := by
  by_cases hm : (t, n) ∈ K
  · rw [addK_old hm]
    obtain ⟨i, hi⟩ := List.getElem?_of_mem hm
    exact KMap.same (enc := encK) (good := goodK) (a := (t, n)) (v := .bool true) Tryf.underlying103 keyK h ⟨ht, hn⟩ hi (by rw [List.getElem?_map, hi]; rfl)
  · rw [addK_new hm]
    have := KMap.push (enc := encK) (good := goodK) (a := (t, n)) (clock := ck) Tryf.underlying103 keyK h ⟨ht, hn⟩ hm (.bool true)
    unfold SolMap
    rw [List.map_append]
    exact this

/-- Where a ledger's parts lie. -/
structure LM where
  dm : Nat
  sm : Nat
  es : Array MapEntry
  ck : Nat
  es2 : Array MapEntry
  ck2 : Nat
  vs : Value
  vq : Value
  vr : Value
  ps : List Nat

/-- The ledger at block L of w holds m; F its blocks. -/
structure LedAt (w : World) (F : Nat → Prop) (L : Nat) (m : PLed) (x : LM) : Prop where
  led : Blk w L (ledC m x.dm x.sm x.vs x.vq x.vr) 108
  fL : F L
  fdm : F x.dm
  fsm : F x.sm
  dmap : w.heap[x.dm]? = some (.map x.es x.ck)
  set : SetMap x.es m.disq
  smap : w.heap[x.sm]? = some (.map x.es2 x.ck2)
  sol : SolMap x.es2 m.solved
  dms : x.dm ≠ x.sm
  subs : w.ownsRow 0 110 1 x.vs m.subs.length (x.ps.map ptrV)
  queue : w.ownsRow 0 110 1 x.vq m.queue.length ((m.queue.map (qel x.ps m.subs)).map pv)
  recs : w.ownsRow 0 114 2 x.vr m.recs.length (m.recs.flatMap (recV x.ps))
  fs : ∀ k, x.vs.ownBlock = some k → F k
  fq : ∀ k, x.vq.ownBlock = some k → F k
  fr : ∀ k, x.vr.ownBlock = some k → F k
  apart : ∀ k, x.vs.ownBlock = some k → x.vq.ownBlock ≠ some k
  len : x.ps.length = m.subs.length
  sub : ∀ (i p : Nat), x.ps[i]? = some p → F p ∧ Blk w p (subC L i (subAt m.subs i)) 112
  below : ∀ k, F k → k < w.heap.size

def IsLed (w : World) (F : Nat → Prop) (L : Nat) (m : PLed) : Prop := ∃ x, LedAt w F L m x

theorem owns_of_block {w w' : World} {base : Nat} {e : TypeId} {size : Nat} {v : Value} {n : Nat} {xs : List Value} (h : w.ownsRow base e size v n xs) (hb : ∀ k, v.ownBlock = some k → w'.heap[k]? = w.heap[k]?) : w'.ownsRow base e size v n xs := by
  obtain ⟨h1, h2⟩ := h
  refine ⟨h1, ?_⟩
  rcases h2 with h2 | ⟨g, cap, cur, hv, hg, hh, r⟩
  · exact Or.inl h2
  · exact Or.inr ⟨g, cap, cur, hv, hg, by rw [hb g (by rw [hv]; rfl)]; exact hh, r⟩

theorem owns_form {w : World} {base : Nat} {e : TypeId} {size : Nat} {v : Value} {n : Nat} {xs : List Value} (h : w.ownsRow base e size v n xs) : ∃ a c, v = .slice a n c := by
  rcases h.2 with ⟨h1, h2⟩ | ⟨g, cap, cur, hv, _⟩
  · exact ⟨none, 0, by rw [h1, h2]⟩
  · exact ⟨_, _, hv⟩

/-- The row that a slice owns. -/
theorem owns_row {w : World} {base : Nat} {e : TypeId} {size : Nat} {v : Value} {n : Nat} {xs : List Value} (h : w.ownsRow base e size v n xs) {k : Nat} (hk : v.ownBlock = some k) : ∃ C, Blk w k C e := by
  rcases h.2 with ⟨h1, _⟩ | ⟨g, cap, cur, hv, _, hg, _⟩
  · rw [h1] at hk
    simp [Value.ownBlock] at hk
  · rw [hv] at hk
    simp [Value.ownBlock] at hk
    subst hk
    exact ⟨cur, hg⟩

theorem Blk.apart {w : World} {g g' : Nat} {C C' : Array Value} {t t' : TypeId} (h : Blk w g C t) (h' : Blk w g' C' t') (ht : t ≠ t') : g ≠ g' := by
  intro e
  subst e
  unfold Blk at h h'
  rw [h] at h'
  simp at h'
  exact ht h'.2

theorem Blk.noMap {w : World} {g g' : Nat} {C : Array Value} {t : TypeId} {es : Array MapEntry} {ck : Nat} (h : Blk w g C t) (h' : w.heap[g']? = some (.map es ck)) : g ≠ g' := by
  intro e
  subst e
  unfold Blk at h
  rw [h] at h'
  simp at h'

/-- The row that a slice owns is no block of another kind. -/
theorem owns_ne {w : World} {base : Nat} {e : TypeId} {size : Nat} {v : Value} {n : Nat} {xs : List Value} (h : w.ownsRow base e size v n xs) {g : Nat} {C : Array Value} {t : TypeId} (hg : Blk w g C t) (ht : e ≠ t) : v.ownBlock ≠ some g := fun hk => by
  obtain ⟨C', hC⟩ := owns_row h hk
  exact hC.apart hg ht rfl
theorem owns_noMap {w : World} {base : Nat} {e : TypeId} {size : Nat} {v : Value} {n : Nat} {xs : List Value} (h : w.ownsRow base e size v n xs) {g : Nat} {es : Array MapEntry} {ck : Nat} (hg : w.heap[g]? = some (.map es ck)) : v.ownBlock ≠ some g := fun hk => by
  obtain ⟨C', hC⟩ := owns_row h hk
  exact hC.noMap hg rfl

theorem LedAt.frame {w w' : World} {F : Nat → Prop} {L : Nat} {m : PLed} {x : LM} (h : LedAt w F L m x) (hb : ∀ k, F k → w'.heap[k]? = w.heap[k]?) (hs : w.heap.size ≤ w'.heap.size) : LedAt w' F L m x where
  led := (hb L h.fL).trans h.led
  fL := h.fL
  fdm := h.fdm
  fsm := h.fsm
  dmap := (hb x.dm h.fdm).trans h.dmap
  set := h.set
  smap := (hb x.sm h.fsm).trans h.smap
  sol := h.sol
  dms := h.dms
  subs := owns_of_block h.subs (fun k hk => hb k (h.fs k hk))
  queue := owns_of_block h.queue (fun k hk => hb k (h.fq k hk))
  recs := owns_of_block h.recs (fun k hk => hb k (h.fr k hk))
  fs := h.fs
  fq := h.fq
  fr := h.fr
  apart := h.apart
  len := h.len
  sub := fun i p hp => ⟨(h.sub i p hp).1, (hb p (h.sub i p hp).1).trans (h.sub i p hp).2⟩
  below := fun k hk => Nat.lt_of_lt_of_le (h.below k hk) hs

/-- w' is w but for the blocks F and new ones; F' lies in those. -/
structure Framed (w : World) (F : Nat → Prop) (w' : World) (F' : Nat → Prop) : Prop where
  os : w'.os = w.os
  tape : w'.tape = w.tape
  output : w'.output = w.output
  size : w.heap.size ≤ w'.heap.size
  block : ∀ k, k < w.heap.size → ¬ F k → w'.heap[k]? = w.heap[k]?
  inside : ∀ k, F' k → F k ∨ w.heap.size ≤ k

theorem Framed.refl (w : World) (F : Nat → Prop) : Framed w F w F := ⟨rfl, rfl, rfl, Nat.le_refl _, fun _ _ _ => rfl, fun _ h => Or.inl h⟩

theorem Framed.trans {w w1 w2 : World} {F F1 F2 : Nat → Prop} (h : Framed w F w1 F1) (k : Framed w1 F1 w2 F2) : Framed w F w2 F2 where
  os := k.os.trans h.os
  tape := k.tape.trans h.tape
  output := k.output.trans h.output
  size := Nat.le_trans h.size k.size
  block := fun n hn hF => (k.block n (Nat.lt_of_lt_of_le hn h.size) (fun h1 => by
    rcases h.inside n h1 with h2 | h2
    · exact hF h2
    · omega)).trans (h.block n hn hF)
  inside := fun n hn => by
    rcases k.inside n hn with h1 | h1
    · exact h.inside n h1
    · exact Or.inr (Nat.le_trans h.size h1)

/-- Only new blocks. -/
theorem Framed.ofBelow {w w' : World} {B : Nat} {F : Nat → Prop} (h : Below B w w') (hB : w.heap.size ≤ B) : Framed w F w' F :=
  ⟨h.os, h.tape, h.output, h.size, fun k hk _ => h.block k (by omega), fun _ h => Or.inl h⟩

theorem Framed.below {w w' : World} {F F' : Nat → Prop} {B : Nat} {w0 : World} (h : Framed w F w' F') (hb : Below B w0 w) (hB : B ≤ w.heap.size) (hF : ∀ k, F k → B ≤ k) : Below B w0 w' :=
  hb.trans ⟨h.os, h.tape, h.output, h.size, fun k hk => h.block k (Nat.lt_of_lt_of_le hk hB) (fun hf => absurd (hF k hf) (by omega))⟩

theorem Framed.up {w w' : World} {F F' : Nat → Prop} {B : Nat} (h : Framed w F w' F') (hB : B ≤ w.heap.size) (hF : ∀ k, F k → B ≤ k) : ∀ k, F' k → B ≤ k := by
  intro k hk
  rcases h.inside k hk with h1 | h1
  · exact hF k h1
  · omega

/-- A wider frame. -/
theorem Framed.wider {w w' : World} {F F' G G' : Nat → Prop} (h : Framed w F w' F') (hG : ∀ k, F k → G k) (hG' : ∀ k, G' k → G k ∨ F' k) : Framed w G w' G' where
  os := h.os
  tape := h.tape
  output := h.output
  size := h.size
  block := fun k hk hn => h.block k hk (fun hf => hn (hG k hf))
  inside := fun k hk => by
    rcases hG' k hk with h1 | h1
    · exact Or.inl h1
    · rcases h.inside k h1 with h2 | h2
      · exact Or.inl (hG k h2)
      · exact Or.inr h2

theorem IsLed.lt {w : World} {F : Nat → Prop} {L : Nat} {m : PLed} (h : IsLed w F L m) : ∀ k, F k → k < w.heap.size := by
  obtain ⟨x, h⟩ := h
  exact h.below

/-- Another ledger that lies apart is as it was. -/
theorem IsLed.other {w w' : World} {F F' G : Nat → Prop} {L : Nat} {m : PLed} (h : IsLed w G L m) (hf : Framed w F w' F') (hd : ∀ k, F k → ¬ G k) : IsLed w' G L m := by
  obtain ⟨x, h⟩ := h
  exact ⟨x, h.frame (fun k hk => hf.block k (h.below k hk) (fun hF => hd k hF hk)) hf.size⟩

theorem IsLed.below {w w' : World} {B : Nat} {F : Nat → Prop} {L : Nat} {m : PLed} (h : IsLed w F L m) (hb : Below B w w') (hB : w.heap.size ≤ B) : IsLed w' F L m := by
  obtain ⟨x, h⟩ := h
  exact ⟨x, h.frame (fun k hk => hb.block k (Nat.lt_of_lt_of_le (h.below k hk) hB)) hb.size⟩

/-- A ledger's own cells alone have turned. -/
theorem LedAt.put {w w' : World} {F : Nat → Prop} {L : Nat} {m m' : PLed} {x : LM} (h : LedAt w F L m x) (e1 : m'.disq = m.disq) (e2 : m'.solved = m.solved) (e3 : m'.subs = m.subs) (e4 : m'.queue = m.queue) (e5 : m'.recs = m.recs)
    (hL : Blk w' L (ledC m' x.dm x.sm x.vs x.vq x.vr) 108) (hb : ∀ k, k ≠ L → w'.heap[k]? = w.heap[k]?) (hs : w.heap.size ≤ w'.heap.size) : LedAt w' F L m' x where
  led := hL
  fL := h.fL
  fdm := h.fdm
  fsm := h.fsm
  dmap := (hb x.dm (Ne.symm (h.led.noMap h.dmap))).trans h.dmap
  set := by rw [e1]; exact h.set
  smap := (hb x.sm (Ne.symm (h.led.noMap h.smap))).trans h.smap
  sol := by rw [e2]; exact h.sol
  dms := h.dms
  subs := by rw [e3]; exact owns_of_block h.subs (fun k hk => hb k (fun e => owns_ne h.subs h.led (by decide) (e ▸ hk)))
  queue := by rw [e3, e4]; exact owns_of_block h.queue (fun k hk => hb k (fun e => owns_ne h.queue h.led (by decide) (e ▸ hk)))
  recs := by rw [e5]; exact owns_of_block h.recs (fun k hk => hb k (fun e => owns_ne h.recs h.led (by decide) (e ▸ hk)))
  fs := h.fs
  fq := h.fq
  fr := h.fr
  apart := h.apart
  len := by rw [e3]; exact h.len
  sub := fun i p hp => ⟨(h.sub i p hp).1, by
    rw [e3]
    exact (hb p ((h.sub i p hp).2.apart h.led (by decide))).trans (h.sub i p hp).2⟩
  below := fun k hk => Nat.lt_of_lt_of_le (h.below k hk) hs

def LedPost (w : World) (F : Nat → Prop) (L : Nat) (m : PLed) (e : Ending) (w' : World) : Prop :=
  e = .returned (.tuple #[]) ∧ ∃ F', IsLed w' F' L m ∧ Framed w F w' F'

/-- A new ledger. -/
theorem isLed_new {nm : ByteArray} {w w' : World} {L dm sm : Nat} (hL : Blk w' L (ledC (PLed.fresh nm) dm sm (.slice none 0 0) (.slice none 0 0) (.slice none 0 0)) 108) (hd : w'.heap[dm]? = some (.map #[] 0)) (hs : w'.heap[sm]? = some (.map #[] 0)) (hne : dm ≠ sm)
    (h1 : w.heap.size ≤ L) (h2 : w.heap.size ≤ dm) (h3 : w.heap.size ≤ sm) : ∃ F, IsLed w' F L (PLed.fresh nm) ∧ ∀ k, F k → w.heap.size ≤ k := by
  refine ⟨fun k => k = L ∨ k = dm ∨ k = sm, ⟨⟨dm, sm, #[], 0, #[], 0, .slice none 0 0, .slice none 0 0, .slice none 0 0, []⟩, ⟨hL, Or.inl rfl, Or.inr (Or.inl rfl), Or.inr (Or.inr rfl), hd, SetMap.empty, hs, KMap.empty, hne, World.ownsRow_nil _ _ _ _, World.ownsRow_nil _ _ _ _, World.ownsRow_nil _ _ _ _, ?_, ?_, ?_, ?_, rfl, ?_, ?_⟩⟩, ?_⟩
  · intro k hk
    simp [Value.ownBlock] at hk
  · intro k hk
    simp [Value.ownBlock] at hk
  · intro k hk
    simp [Value.ownBlock] at hk
  · intro k hk
    simp [Value.ownBlock] at hk
  · intro i p hp
    simp at hp
  · rintro k (rfl | rfl | rfl)
    · exact hL.lt
    · exact (Array.getElem?_eq_some_iff.1 hd).1
    · exact (Array.getElem?_eq_some_iff.1 hs).1
  · rintro k (rfl | rfl | rfl)
    · exact h1
    · exact h2
    · exact h3

theorem filter_qel (ps : List Nat) (T : List PSub) (code : ByteArray) (Q : List Nat) : (Q.map (qel ps T)).filter (keepB code) = (Q.filter fun i => !eqS (subAt T i).team code).map (qel ps T) := by
  rw [List.filter_map]
  rfl

/-- What is behind a disqualification. -/
theorem LedAt.disq {w w3 : World} {F : Nat → Prop} {L : Nat} {m : PLed} {x : LM} {es' : Array MapEntry} {ck' : Nat} {v' : Value} {code : ByteArray}
    (h : LedAt w F L m x) (hs' : SetMap es' (addS m.disq code)) (hq : w3.ownsRow 0 110 1 v' (m.disqualify code).queue.length (((m.disqualify code).queue.map (qel x.ps m.subs)).map pv)) (hv : v'.ownBlock = x.vq.ownBlock)
    (hdm : w3.heap[x.dm]? = some (.map es' ck')) (hb : ∀ k, k < w.heap.size → k ≠ x.dm → x.vq.ownBlock ≠ some k → w3.heap[k]? = w.heap[k]?) (hsz : w.heap.size ≤ w3.heap.size) (hos : w3.os = w.os ∧ w3.tape = w.tape ∧ w3.output = w.output) :
    LedAt (w3.setCell ⟨L, 12, none⟩ v') F L (m.disqualify code) { x with es := es', ck := ck', vq := v' } ∧ Framed w F (w3.setCell ⟨L, 12, none⟩ v') F := by
  have hLd : L ≠ x.dm := h.led.noMap h.dmap
  have hLq : x.vq.ownBlock ≠ some L := owns_ne h.queue h.led (by decide)
  have hL3 : Blk w3 L (ledC m x.dm x.sm x.vs x.vq x.vr) 108 := (hb L (h.below L h.fL) hLd hLq).trans h.led
  have hset : ∀ k, k ≠ L → (w3.setCell ⟨L, 12, none⟩ v').heap[k]? = w3.heap[k]? := fun k hk => Below.heap_setCell w3 ⟨L, 12, none⟩ v' k hk
  have hbk : ∀ k, k < w.heap.size → k ≠ x.dm → x.vq.ownBlock ≠ some k → k ≠ L → (w3.setCell ⟨L, 12, none⟩ v').heap[k]? = w.heap[k]? := fun k h1 h2 h3 h4 => (hset k h4).trans (hb k h1 h2 h3)
  have hsm : x.sm ≠ L := fun e => h.led.noMap h.smap e.symm
  have hsq : x.vq.ownBlock ≠ some x.sm := owns_noMap h.queue h.smap
  refine ⟨⟨?_, h.fL, h.fdm, h.fsm, ?_, hs', ?_, h.sol, h.dms, ?_, ?_, ?_, h.fs, ?_, h.fr, ?_, h.len, ?_, ?_⟩, ⟨hos.1, hos.2.1, hos.2.2, by simpa using hsz, ?_, fun k hk => Or.inl hk⟩⟩
  · exact hL3.set 12 v'
  · rw [hset x.dm (Ne.symm hLd)]
    exact hdm
  · rw [hbk x.sm (h.below x.sm h.fsm) (Ne.symm h.dms) hsq hsm]
    exact h.smap
  · refine owns_of_block h.subs (fun k hk => ?_)
    obtain ⟨C, hC⟩ := owns_row h.subs hk
    exact hbk k (h.below k (h.fs k hk)) (hC.noMap h.dmap) (h.apart k hk) (hC.apart h.led (by decide))
  · refine owns_of_block hq (fun k hk => hset k ?_)
    obtain ⟨C, hC⟩ := owns_row h.queue (hv ▸ hk)
    exact hC.apart h.led (by decide)
  · refine owns_of_block h.recs (fun k hk => ?_)
    obtain ⟨C, hC⟩ := owns_row h.recs hk
    exact hbk k (h.below k (h.fr k hk)) (hC.noMap h.dmap) (owns_ne h.queue hC (by decide)) (hC.apart h.led (by decide))
  · intro k hk
    exact h.fq k (hv ▸ hk)
  · intro k hk
    rw [hv]
    exact h.apart k hk
  · intro i p hp
    obtain ⟨h1, h2⟩ := h.sub i p hp
    exact ⟨h1, (hbk p (h.below p h1) (h2.noMap h.dmap) (owns_ne h.queue h2 (by decide)) (h2.apart h.led (by decide))).trans h2⟩
  · intro k hk
    exact Nat.lt_of_lt_of_le (h.below k hk) (by simpa using hsz)
  · intro k hk hF
    exact hbk k hk (fun e => hF (e ▸ h.fdm)) (fun e => hF (h.fq k e)) (fun e => hF (e ▸ h.fL))

end Go.Proofs.Qxb6616853aFmt
