import Derived.Test.Qxb6616853aFmtLed
namespace Go.Proofs.Qxb6616853aFmt
open Go.RowKit
open Go.ChangeMaps (setBlock)
attribute [local go_sem ↓] Go.wp_at_zero Go.wp_at_succ

theorem setBlock_same {w : World} {b : Nat} (hb : b < w.heap.size) (o : Obj) : (setBlock w b o).heap[b]? = some o := by
  unfold setBlock
  simp [hb]
theorem setBlock_other {w : World} {b k : Nat} (hk : k ≠ b) (o : Obj) : (setBlock w b o).heap[k]? = w.heap[k]? := by
  unfold setBlock
  show (w.heap.setIfInBounds b o)[k]? = _
  rw [Array.getElem?_setIfInBounds_ne (Ne.symm hk)]
theorem setBlock_size (w : World) (b : Nat) (o : Obj) : (setBlock w b o).heap.size = w.heap.size := by
  unfold setBlock
  simp

theorem filter_qel_post (vq : Value) (ps : List Nat) (m : PLed) (code : ByteArray) (w : World) :
    DelPost vq (m.queue.map (qel ps m.subs)) code w = fun e w' => ∃ v', e = .returned v' ∧ w'.ownsRow 0 110 1 v' (m.disqualify code).queue.length (((m.disqualify code).queue.map (qel ps m.subs)).map pv) ∧ v'.ownBlock = vq.ownBlock ∧ w.grownBy w' vq.ownBlock := by
  funext e w'
  unfold DelPost
  rw [filter_qel, List.length_map]
  rfl

set_option maxHeartbeats 2000000 in
theorem disqualify_any (w : World) (F : Nat → Prop) (L : Nat) (m : PLed) (N : Nat) (code : ByteArray) (h : IsLed w F L m) (hm : m.Ok N) (hN : N ≤ 4096) (hc : code.size ≤ maxLen) :
    Calls Tryf.prog 43 #[.pointer (some ⟨L, 0, none⟩), .string code] w (LedPost w F L (m.disqualify code)) := by
  obtain ⟨⟨dm, sm, es, ck, es2, ck2, vs, vq, vr, ps⟩, h⟩ := h
  have hq : m.queue.length ≤ 4096 := Nat.le_trans hm.queue hN
  obtain ⟨es', ck', hup, hset⟩ := h.set.update (t := 101) (k := 9) (el := 4) (clock := ck) Tryf.underlying101 Tryf.underlying9 hc
  obtain ⟨a, c, hvq⟩ := owns_form h.queue
  dsimp only at hvq
  subst hvq
  have hLlt := h.led.lt
  have hdlt : dm < w.heap.size := h.below dm h.fdm
  have hLd : L ≠ dm := h.led.noMap h.dmap
  -- the world behind the box, and behind the map's store
  obtain ⟨W1, hW1⟩ : ∃ W1, W1 = w.alloc (.cells #[.string code] 9) := ⟨_, rfl⟩
  have hd1 : W1.heap[dm]? = some (.map es ck) := by rw [hW1, Below.heap_alloc _ _ _ hdlt]; exact h.dmap
  have hr1 := hup W1.drew dm hd1
  have hL1 : Blk W1 L (ledC m dm sm vs (.slice a m.queue.length c) vr) 108 := by rw [hW1]; exact h.led.alloc _
  have c1 : W1.cell? ⟨L, 1, none⟩ = some (.map (some dm)) := hL1.cell 1
  have cB : W1.cell? ⟨w.heap.size, 0, none⟩ = some (.string code) := by rw [hW1]; simp
  have hz1 : W1.heap.size = w.heap.size + 1 := by rw [hW1]; simp
  have hb1 : ∀ k, k < w.heap.size → W1.heap[k]? = w.heap[k]? := fun k hk => by rw [hW1]; exact Below.heap_alloc _ _ _ hk
  have hos1 : W1.os = w.os ∧ W1.tape = w.tape ∧ W1.output = w.output := by rw [hW1]; exact ⟨rfl, rfl, rfl⟩
  have hBk1 : Blk W1 w.heap.size #[.string code] 9 := by rw [hW1]; exact Blk.new _ _ _
  obtain ⟨W2, hW2⟩ : ∃ W2, W2 = setBlock W1.drew dm (.map es' ck') := ⟨_, rfl⟩
  have hz2 : W2.heap.size = w.heap.size + 1 := by rw [hW2, setBlock_size]; exact hz1
  have hb2 : ∀ k, k < w.heap.size → k ≠ dm → W2.heap[k]? = w.heap[k]? := fun k hk hkd => by rw [hW2, setBlock_other hkd]; exact hb1 k hk
  have hdm2 : W2.heap[dm]? = some (.map es' ck') := by rw [hW2]; exact setBlock_same (by show dm < W1.heap.size; omega) _
  have hos2 : W2.os = w.os ∧ W2.tape = w.tape ∧ W2.output = w.output := by rw [hW2]; exact hos1
  have hBk2 : Blk W2 w.heap.size #[.string code] 9 := by
    show W2.heap[w.heap.size]? = _
    rw [hW2, setBlock_other (by omega)]
    exact hBk1
  have hL2 : Blk W2 L (ledC m dm sm vs (.slice a m.queue.length c) vr) 108 := (hb2 L hLlt hLd).trans h.led
  have c12 : W2.cell? ⟨L, 12, none⟩ = some (.slice a m.queue.length c) := hL2.cell 12
  have hqd : ∀ k, (Value.slice a m.queue.length c).ownBlock = some k → W2.heap[k]? = w.heap[k]? := fun k hk => by
    obtain ⟨C, hC⟩ := owns_row h.queue hk
    exact hb2 k (h.below k (h.fq k hk)) (hC.noMap h.dmap)
  have hdel := deleteF_any (.slice a m.queue.length c) (m.queue.map (qel ps m.subs)) code w.heap.size W2 (by simpa using hq) (by simpa using owns_of_block h.queue hqd) (fun y hy => by
    obtain ⟨i, hi, rfl⟩ := List.mem_map.1 hy
    have hil : i < ps.length := by rw [show ps.length = m.subs.length from h.len]; exact hm.qlt i hi
    have hpi : ps[i]? = some (ps.getD i 0) := by rw [List.getD_eq_getElem?_getD, List.getElem?_eq_getElem hil]; rfl
    obtain ⟨h1, h2⟩ := h.sub i _ hpi
    have hB2 : Blk W2 (ps.getD i 0) (subC L i (subAt m.subs i)) 112 := (hb2 _ (h.below _ h1) (h2.noMap h.dmap)).trans h2
    exact ⟨hB2.cell 2, owns_ne h.queue h2 (by decide)⟩) (hBk2.cell 0) (fun e => absurd (h.below _ (h.fq _ e)) (by omega))
  rw [filter_qel_post] at hdel
  have HH : Hid (LedAt w F L m ⟨dm, sm, es, ck, es2, ck2, vs, .slice a m.queue.length c, vr, ps⟩) := h
  have HL2 : Hid (Blk W2 L (ledC m dm sm vs (.slice a m.queue.length c) vr) 108) := hL2
  have HW1 : Hid (W1 = w.alloc (.cells #[.string code] 9)) := hW1
  have HW2 : Hid (W2 = setBlock W1.drew dm (.map es' ck')) := hW2
  have HZ : Hid (W2.heap.size = w.heap.size + 1) := hz2
  have HD : Hid (W2.heap[dm]? = some (.map es' ck')) := hdm2
  have HO : Hid _ := hos2
  have HB : Hid _ := hb2
  clear h hL1 hBk1 hBk2 hb1 hos1 hz1 hqd hL2 hW1 hW2 hz2 hd1 hup hdm2 hos2 hb2 hm hq
  obtain ⟨qn, hqn⟩ : ∃ qn, qn = m.queue.length := ⟨_, rfl⟩
  have HQN : Hid (qn = m.queue.length) := hqn
  rw [← hqn] at c12 hdel
  clear hqn
  go_enter Tryf.func43, Tryf.ntmps43
  go_wp2
  rw [← HW1.out]
  go_region
  rw [← HW2.out]
  clear HW1 HW2 hr1 cB c1
  go_wp2_with fail
  refine hdel.mono ?_
  rintro e w3 ⟨v', rfl, hown3, hv3, hgr⟩
  rw [HQN.out] at hv3 hgr
  obtain ⟨a', c', rfl⟩ := owns_form hown3
  have h := HH.out
  have hLq : (Value.slice a m.queue.length c).ownBlock ≠ some L := owns_ne h.queue h.led (by decide)
  have hsz := HZ.out
  have hL3 : Blk w3 L (ledC m dm sm vs (.slice a m.queue.length c) vr) 108 := (hgr.block L (by omega) (fun e => hLq e.symm)).trans HL2.out
  have hdq : (Value.slice a m.queue.length c).ownBlock ≠ some dm := owns_noMap h.queue h.dmap
  have FIN := h.disq (w3 := w3) (ck' := ck') hset hown3 hv3 ((hgr.block dm (by omega) (fun e => hdq e.symm)).trans HD.out)
    (fun k h1 h2 h3 => (hgr.block k (by omega) (fun e => h3 e.symm)).trans (HB.out k h1 h2)) (by have := hgr.size; omega) ⟨hgr.os.trans HO.out.1, hgr.tape.trans HO.out.2.1, hgr.output.trans HO.out.2.2⟩
  have HF : Hid _ := FIN
  have d12 : w3.cell? ⟨L, 12, none⟩ = some (.slice a m.queue.length c) := hL3.cell 12
  have f12 := hL3.frozen 12
  clear FIN h hsz hL3 hdq hLq hown3 hv3 hgr HH HL2 HZ HD HO HB hset hdel c12
  go_wp2
  go_end0
  exact ⟨rfl, F, ⟨_, HF.out.1⟩, HF.out.2⟩

/-- The five steps that turn a ledger's own cells alone: one law for the worlds behind them. -/
theorem LedAt.put1 {w : World} {F : Nat → Prop} {L : Nat} {m m' : PLed} {x : LM} (h : LedAt w F L m x) (e1 : m'.disq = m.disq) (e2 : m'.solved = m.solved) (e3 : m'.subs = m.subs) (e4 : m'.queue = m.queue) (e5 : m'.recs = m.recs)
    {w' : World} (hL : Blk w' L (ledC m' x.dm x.sm x.vs x.vq x.vr) 108) (hb : ∀ k, k ≠ L → w'.heap[k]? = w.heap[k]?) (hs : w'.heap.size = w.heap.size) (ho : w'.os = w.os ∧ w'.tape = w.tape ∧ w'.output = w.output) :
    ∃ F', IsLed w' F' L m' ∧ Framed w F w' F' :=
  ⟨F, ⟨x, h.put e1 e2 e3 e4 e5 hL hb (by omega)⟩, ho.1, ho.2.1, ho.2.2, by omega, fun k _ hF => hb k (fun e => hF (e ▸ h.fL)), fun _ hk => Or.inl hk⟩

set_option maxHeartbeats 1000000 in
theorem setFrozen_any (w : World) (F : Nat → Prop) (L : Nat) (m : PLed) (b : Bool) (h : IsLed w F L m) :
    Calls Tryf.prog 46 #[.pointer (some ⟨L, 0, none⟩), .bool b] w (LedPost w F L (m.setFrozen b)) := by
  obtain ⟨⟨dm, sm, es, ck, es2, ck2, vs, vq, vr, ps⟩, h⟩ := h
  obtain ⟨a, c, hvr⟩ := owns_form h.recs
  dsimp only at hvr
  subst hvr
  have c13 : w.cell? ⟨L, 13, none⟩ = some (.slice a m.recs.length c) := h.led.cell 13
  have c14 : w.cell? ⟨L, 14, none⟩ = some (.bool m.fro) := h.led.cell 14
  have c15 : w.cell? ⟨L, 15, none⟩ = some (.int .i64 m.shown) := h.led.cell 15
  have f14 := h.led.frozen 14
  have f15 := h.led.frozen 15
  cases b
  · have FIN := h.put1 (m' := m.setFrozen false) rfl rfl rfl rfl rfl (w' := w.setCell ⟨L, 14, none⟩ (.bool false)) (h.led.set 14 (.bool false)) (fun k hk => Below.heap_setCell _ _ _ _ hk) (by simp) ⟨rfl, rfl, rfl⟩
    have HF : Hid _ := FIN
    clear FIN h
    go_enter Tryf.func46, Tryf.ntmps46
    go_wp2
    go_end0
    exact ⟨rfl, HF.out⟩
  · have FIN := h.put1 (m' := m.setFrozen true) rfl rfl rfl rfl rfl (w' := (w.setCell ⟨L, 15, none⟩ (.int .i64 m.recs.length)).setCell ⟨L, 14, none⟩ (.bool true)) ((h.led.set 15 (.int .i64 m.recs.length)).set 14 (.bool true))
      (fun k hk => (Below.heap_setCell _ _ _ _ hk).trans (Below.heap_setCell _ _ _ _ hk)) (by simp) ⟨rfl, rfl, rfl⟩
    have HF : Hid _ := FIN
    clear FIN h
    go_enter Tryf.func46, Tryf.ntmps46
    go_wp2
    go_end0
    exact ⟨rfl, HF.out⟩
end Go.Proofs.Qxb6616853aFmt
