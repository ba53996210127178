import Derived.Test.Qxb6616853aLed
namespace Go.Proofs.Qxb6616853a
open Go.RowKit
open Go.ChangeMaps (setBlock)
attribute [local go_sem ↓] Go.wp_at_zero Go.wp_at_succ

theorem setBlock_same {w : World} {b : Nat} (hb : b < w.heap.size) (o : Obj) : (setBlock w b o).heap[b]? = some o := by
  unfold setBlock
  simp [hb]
theorem setBlock_other {w : World} {b k : Nat} (hk : k ≠ b) (o : Obj) : (setBlock w b o).heap[k]? = w.heap[k]? := by
  unfold setBlock
  show (w.heap.setIfInBounds b o)[k]? = _
  rw [Array.getElem?_setIfInBounds_ne (Ne.symm hk)]
theorem setBlock_size (w : World) (b : Nat) (o : Obj) : (setBlock w b o).heap.size = w.heap.size := by
  unfold setBlock
  simp

theorem filter_qel_post (vq : Value) (ps : List Nat) (T : List ByteArray) (Q : List Nat) (code : ByteArray) (w : World) :
    DelPost vq (Q.map (qel ps T)) code w = fun e w' => ∃ v', e = .returned v' ∧ w'.ownsRow 0 70 1 v' (dropQ T code Q).length (((dropQ T code Q).map (qel ps T)).map pv) ∧ v'.ownBlock = vq.ownBlock ∧ w.grownBy w' vq.ownBlock := by
  funext e w'
  unfold DelPost
  rw [filter_qel, List.length_map]

set_option maxHeartbeats 2000000 in
theorem disqualify_any (w : World) (F : Nat → Prop) (L : Nat) (nm : ByteArray) (D T : List ByteArray) (Q : List Nat) (code : ByteArray) (h : IsLed w F L nm D T Q) (hc : code.size ≤ maxLen) (hq : Q.length ≤ 4096) :
    Calls Try.prog 33 #[.pointer (some ⟨L, 0, none⟩), .string code] w (LedPost w F L nm (addS D code) T (dropQ T code Q)) := by
  obtain ⟨dm, sm, es, ck, vs, vq, ps, h⟩ := h
  obtain ⟨es', ck', hup, hset⟩ := h.set.update (t := 46) (k := 9) (el := 4) (clock := ck) Try.underlying46 Try.underlying9 hc
  obtain ⟨a, c, rfl⟩ := owns_form h.queue
  have hLlt := h.led.lt
  have hdlt := h.below dm h.fdm
  have hLd : L ≠ dm := h.led.noMap h.dmap
  -- the world behind the box, and behind the map's store
  obtain ⟨W1, hW1⟩ : ∃ W1, W1 = w.alloc (.cells #[.string code] 9) := ⟨_, rfl⟩
  have hd1 : W1.heap[dm]? = some (.map es ck) := by rw [hW1, Below.heap_alloc _ _ _ hdlt]; exact h.dmap
  have hr1 := hup W1.drew dm hd1
  have hL1 : Blk W1 L (ledC nm dm sm vs (.slice a Q.length c)) 59 := by rw [hW1]; exact h.led.alloc _
  have c1 : W1.cell? ⟨L, 1, none⟩ = some (.map (some dm)) := hL1.cell 1
  have cB : W1.cell? ⟨w.heap.size, 0, none⟩ = some (.string code) := by rw [hW1]; simp
  have hz1 : W1.heap.size = w.heap.size + 1 := by rw [hW1]; simp
  have hb1 : ∀ k, k < w.heap.size → W1.heap[k]? = w.heap[k]? := fun k hk => by rw [hW1]; exact Below.heap_alloc _ _ _ hk
  have hos1 : W1.os = w.os ∧ W1.tape = w.tape ∧ W1.output = w.output := by rw [hW1]; exact ⟨rfl, rfl, rfl⟩
  have hBk1 : Blk W1 w.heap.size #[.string code] 9 := by rw [hW1]; exact Blk.new _ _ _
  obtain ⟨W2, hW2⟩ : ∃ W2, W2 = setBlock W1.drew dm (.map es' ck') := ⟨_, rfl⟩
  have hz2 : W2.heap.size = w.heap.size + 1 := by rw [hW2, setBlock_size]; exact hz1
  have hb2 : ∀ k, k < w.heap.size → k ≠ dm → W2.heap[k]? = w.heap[k]? := fun k hk hkd => by rw [hW2, setBlock_other hkd]; exact hb1 k hk
  have hdm2 : W2.heap[dm]? = some (.map es' ck') := by rw [hW2]; exact setBlock_same (by show dm < W1.heap.size; omega) _
  have hos2 : W2.os = w.os ∧ W2.tape = w.tape ∧ W2.output = w.output := by rw [hW2]; exact hos1
  have hBk2 : Blk W2 w.heap.size #[.string code] 9 := by
    show W2.heap[w.heap.size]? = _
    rw [hW2, setBlock_other (by omega)]
    exact hBk1
  have hL2 : Blk W2 L (ledC nm dm sm vs (.slice a Q.length c)) 59 := (hb2 L hLlt hLd).trans h.led
  have c12 : W2.cell? ⟨L, 12, none⟩ = some (.slice a Q.length c) := hL2.cell 12
  have hqd : ∀ k, (Value.slice a Q.length c).ownBlock = some k → W2.heap[k]? = w.heap[k]? := fun k hk => by
    obtain ⟨C, hC⟩ := owns_row h.queue hk
    exact hb2 k (h.below k (h.fq k hk)) (hC.noMap h.dmap)
  have hdel := deleteF_any (.slice a Q.length c) (Q.map (qel ps T)) code w.heap.size W2 (by simpa using hq) (by simpa using owns_of_block h.queue hqd) (fun x hx => by
    obtain ⟨i, hi, rfl⟩ := List.mem_map.1 hx
    have hil : i < ps.length := by rw [h.len]; exact h.qlt i hi
    have hpi : ps[i]? = some (ps.getD i 0) := by rw [List.getD_eq_getElem?_getD, List.getElem?_eq_getElem hil]; rfl
    obtain ⟨h1, h2⟩ := h.sub i _ hpi
    have hB2 : Blk W2 (ps.getD i 0) (subC L ((i : Int) + 1) (teamAt T i)) 69 := (hb2 _ (h.below _ h1) (h2.noMap h.dmap)).trans h2
    refine ⟨hB2.cell 2, fun e => ?_⟩
    obtain ⟨C, hC⟩ := owns_row h.queue e
    exact hC.apart h2 (by decide) rfl) (hBk2.cell 0) (fun e => absurd (h.below _ (h.fq _ e)) (by omega))
  rw [filter_qel_post] at hdel
  have HH : Hid (LedAt w F L nm D T Q dm sm es ck vs (.slice a Q.length c) ps) := h
  have HL2 : Hid _ := hL2
  have HW1 : Hid (W1 = w.alloc (.cells #[.string code] 9)) := hW1
  have HW2 : Hid (W2 = setBlock W1.drew dm (.map es' ck')) := hW2
  have HZ : Hid (W2.heap.size = w.heap.size + 1) := hz2
  have HD : Hid (W2.heap[dm]? = some (.map es' ck')) := hdm2
  have HO : Hid _ := hos2
  have HB : Hid _ := hb2
  clear h hL1 hBk1 hBk2 hb1 hos1 hz1 hqd hL2 hW1 hW2 hz2 hd1 hup hdm2 hos2 hb2
  go_enter Try.func33, Try.ntmps33
  go_wp2
  rw [← HW1.out]
  go_region
  rw [← HW2.out]
  clear HW1 HW2 hr1 cB c1
  go_wp2_with fail
  refine hdel.mono ?_
  rintro e w3 ⟨v', rfl, hown3, hv3, hgr⟩
  obtain ⟨a', c', rfl⟩ := owns_form hown3
  have h := HH.out
  have hLq : (Value.slice a Q.length c).ownBlock ≠ some L := fun e => by
    obtain ⟨C, hC⟩ := owns_row h.queue e
    exact hC.apart h.led (by decide) rfl
  have hsz := HZ.out
  have hL3 : Blk w3 L (ledC nm dm sm vs (.slice a Q.length c)) 59 := (hgr.block L (by omega) (fun e => hLq e.symm)).trans HL2.out
  have hdq : (Value.slice a Q.length c).ownBlock ≠ some dm := fun e => by
    obtain ⟨C, hC⟩ := owns_row h.queue e
    exact hC.noMap h.dmap rfl
  have FIN := h.disq (w3 := w3) (ck' := ck') hset hown3 hv3 ((hgr.block dm (by omega) (fun e => hdq e.symm)).trans HD.out)
    (fun k h1 h2 h3 => (hgr.block k (by omega) (fun e => h3 e.symm)).trans (HB.out k h1 h2)) (by have := hgr.size; omega) ⟨hgr.os.trans HO.out.1, hgr.tape.trans HO.out.2.1, hgr.output.trans HO.out.2.2⟩
  have HF : Hid _ := FIN
  have d12 : w3.cell? ⟨L, 12, none⟩ = some (.slice a Q.length c) := hL3.cell 12
  have f12 := hL3.frozen 12
  clear FIN h hsz hL3 hdq hLq hown3 hv3 hgr HH HL2 HZ HD HO HB hset hdel c12
  go_wp2
  go_end0
  exact ⟨rfl, F, ⟨dm, sm, es', ck', vs, _, ps, HF.out.1⟩, HF.out.2⟩

theorem zzDisqualify_any (w : World) (F : Nat → Prop) (L : Nat) (nm : ByteArray) (D T : List ByteArray) (Q : List Nat) (code : ByteArray) (h : IsLed w F L nm D T Q) (hc : code.size ≤ maxLen) (hq : Q.length ≤ 4096) :
    Calls Try.prog 17 #[.pointer (some ⟨L, 0, none⟩), .string code] w (LedPost w F L nm (addS D code) T (dropQ T code Q)) := by
  go_enter Try.func17, Try.ntmps17
  go_wp2_with fail
  refine (disqualify_any w F L nm D T Q code h hc hq).mono ?_
  rintro e w1 ⟨rfl, hp⟩
  go_wp2
  go_end0
  exact ⟨rfl, hp⟩
end Go.Proofs.Qxb6616853a
