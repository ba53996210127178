import Derived.Test.Qxb6616853aFmtHapp
namespace Go.Proofs.Qxb6616853aFmt
open Go.RowKit Go.Extern.Stop Go.Stop Go.Extern
open Go.ChangeMaps (setBlock)
attribute [local go_sem ↓] Go.wp_at_zero Go.wp_at_succ

/-- A ledger begins a new run. -/
theorem LedAt.rerun {w wb w' : World} {F : Nat → Prop} {L : Nat} {m : PLed} {x : LM} {sm : Nat} (h : LedAt w F L m x) (hb : Below w.heap.size w wb) (hs : wb.heap[sm]? = some (.map #[] 0)) (hsm : w.heap.size ≤ sm)
    (hL : Blk w' L (ledC { PLed.fresh m.name with disq := m.disq } x.dm sm (.slice none 0 0) (.slice none 0 0) (.slice none 0 0)) 108) (hk : ∀ k, k ≠ L → w'.heap[k]? = wb.heap[k]?) (hz : w'.heap.size = wb.heap.size) (ho : w'.os = wb.os ∧ w'.tape = wb.tape ∧ w'.output = wb.output) :
    ∃ F', IsLed w' F' L { PLed.fresh m.name with disq := m.disq } ∧ Framed w F w' F' := by
  have hLl := h.led.lt
  have hdl := h.below _ h.fdm
  have hsl := (Array.getElem?_eq_some_iff.1 hs).1
  have hsz := hb.size
  have hdL : x.dm ≠ L := fun e => h.led.noMap h.dmap e.symm
  refine ⟨fun k => k = L ∨ k = x.dm ∨ k = sm, ⟨⟨x.dm, sm, x.es, x.ck, #[], 0, .slice none 0 0, .slice none 0 0, .slice none 0 0, []⟩, ⟨hL, Or.inl rfl, Or.inr (Or.inl rfl), Or.inr (Or.inr rfl), ?_, h.set, ?_, KMap.empty, ?_, World.ownsRow_nil _ _ _ _, World.ownsRow_nil _ _ _ _, World.ownsRow_nil _ _ _ _, ?_, ?_, ?_, ?_, rfl, ?_, ?_⟩⟩, ⟨ho.1.trans hb.os, ho.2.1.trans hb.tape, ho.2.2.trans hb.output, by omega, fun k hkl hF => ?_, ?_⟩⟩
  · show w'.heap[x.dm]? = _
    rw [hk x.dm hdL, hb.block _ hdl]
    exact h.dmap
  · show w'.heap[sm]? = _
    rw [hk sm (by omega)]
    exact hs
  · show x.dm ≠ sm
    omega
  · intro k hk
    simp [Value.ownBlock] at hk
  · intro k hk
    simp [Value.ownBlock] at hk
  · intro k hk
    simp [Value.ownBlock] at hk
  · intro k hk
    simp [Value.ownBlock] at hk
  · intro i p hp
    simp at hp
  · rintro k (rfl | rfl | rfl)
    · omega
    · omega
    · omega
  · rw [hk k (fun e => hF (e ▸ h.fL)), hb.block k hkl]
  · rintro k (rfl | rfl | rfl)
    · exact Or.inl h.fL
    · exact Or.inl h.fdm
    · exact Or.inr hsm

theorem HBTA {w wx : World} {H hm : Nat} {Ls : List PLed} {G : Nat → Nat → Prop} {e : PEv} {vt vn vm vb : Value} {L i : Nat} {m : PLed} {p : Nat → Nat} {G' : Nat → Nat → Prop} {s : ByteArray} (hb : IsBytes w vt s ∧ ∀ b, hfoot H hm Ls.length G b → ∀ a l c, l ≠ 0 → vt ≠ .slice (some ⟨b, a, none⟩) l c) (h : AppMid w H hm Ls G e vt vn vm vb L i m p G' wx) : IsBytes wx vt s := by
  obtain ⟨h1, h2⟩ := hb
  rcases h1 with h1 | ⟨b, off, len, cap, xs, h3, h4, h5, h6⟩
  · exact Or.inl h1
  · refine Or.inr ⟨b, off, len, cap, xs, h3, h4, h5, fun j hj => ?_⟩
    obtain ⟨h7, h8⟩ := h6 j hj
    exact ⟨Nat.lt_of_lt_of_le h7 h.fr.size, (World.cell?_of_block (a := ⟨b, off + j, none⟩) (h.fr.block b h7 (fun hf => h2 b hf _ _ _ (by omega) h3))).trans h8⟩

set_option maxRecDepth 20000 in
set_option maxHeartbeats 4000000 in
theorem apply_k5 (w : World) (H hm : Nat) (Ls : List PLed) (p : Nat → Nat) (G : Nat → Nat → Prop) (N : Nat) (e : PEv) (vt vn vm vb : Value) (h : HubAt w 9 H hm Ls p G) (hok : AllOk Ls N) (hN : N < 4096) (he : e.Ok) (hkd : e.kind = 5) :
    Calls Tryf.prog 34 #[.pointer (some ⟨H, 0, none⟩), .agg (evC e vt vn vm), .agg (recC vb e)] w (ApplyPost w H hm Ls G e) := by
  have HKD : Hid _ := hkd
  have HNN : Hid (N < 4096) := hN
  clear hkd
  obtain ⟨W, hW⟩ : ∃ W, W = (w.alloc (.cells (evC e vt vn vm) 97)).alloc (.cells (recC vb e) 100) := ⟨_, rfl⟩
  have hWb : Below w.heap.size w W := by rw [hW]; exact ((Below.refl _ _).alloc (Nat.le_refl _) _).alloc (by simp) _
  have hWz : W.heap.size = w.heap.size + 2 := by rw [hW]; simp
  have hEW : Blk W w.heap.size (evC e vt vn vm) 97 := by rw [hW]; exact (Blk.new _ _ _).alloc _
  have hRW : Blk W (w.heap.size + 1) (recC vb e) 100 := by
    have := Blk.new (w.alloc (.cells (evC e vt vn vm) 97)) (recC vb e) 100
    rw [hW]
    simpa using this
  have e2 : W.cell? ⟨w.heap.size, 2, none⟩ = some (.int .u64 (nsOf e.at_)) := hEW.cell 2
  have e3 : W.cell? ⟨w.heap.size, 3, none⟩ = some (.int .i64 (scOf e.at_)) := hEW.cell 3
  have e4 : W.cell? ⟨w.heap.size, 4, none⟩ = some (.pointer none) := hEW.cell 4
  have hrnd := round_any (nsOf e.at_) (scOf e.at_) W (nsOf_pos _) (nsOf_lt _)
  have HW : Hid (W = (w.alloc (.cells (evC e vt vn vm) 97)).alloc (.cells (recC vb e) 100)) := hW
  have HWB : Hid (Below w.heap.size w W) := hWb
  have HWZ : Hid (W.heap.size = w.heap.size + 2) := hWz
  have HEW : Hid (Blk W w.heap.size (evC e vt vn vm) 97) := hEW
  have HRW : Hid (Blk W (w.heap.size + 1) (recC vb e) 100) := hRW
  have HH : Hid (HubAt w 9 H hm Ls p G) := h
  have HOK : Hid (AllOk Ls N) := hok
  have HE : Hid e.Ok := he
  unfold tm at hrnd
  clear hW hWb hWz hEW hRW h hok he
  unfold evC recC at HW ⊢
  go_enter Tryf.func34, Tryf.ntmps34
  go_upto_region 1 with fail
  rw [← HW.out]
  clear HW
  go_cut [] from 8 to 11 (fun wx => Below w.heap.size w wx ∧ Blk wx w.heap.size (evC e vt vn vm) 97 ∧ Blk wx (w.heap.size + 1) (recC vb e) 100)
  case first =>
    go_wp2_with fail
    refine hrnd.mono ?_
    rintro e1 w1 ⟨rfl, hb1⟩
    have hE1 := HEW.out.below hb1 (by rw [HWZ.out]; omega)
    have hR1 := HRW.out.below hb1 (by rw [HWZ.out]; omega)
    have g2 : w1.cell? ⟨w.heap.size, 2, none⟩ = some (.int .u64 (nsOf e.at_)) := hE1.cell 2
    have g3 : w1.cell? ⟨w.heap.size, 3, none⟩ = some (.int .i64 (scOf e.at_)) := hE1.cell 3
    have g4 : w1.cell? ⟨w.heap.size, 4, none⟩ = some (.pointer none) := hE1.cell 4
    have f2 := hE1.frozen 2
    have f3 := hE1.frozen 3
    have f4 := hE1.frozen 4
    have HE1 : Hid _ := hE1
    have HR1 : Hid _ := hR1
    have HB1 : Hid _ := hb1
    clear hE1 hR1 hb1 hrnd e2 e3 e4
    unfold tm
    go_wp2
    go_meet
    refine ⟨?_, ?_, ?_⟩
    · have hb0 : Below w.heap.size w w1 := HWB.out.trans (HB1.out.mono (by rw [HWZ.out]; omega))
      refine ⟨hb0.os, hb0.tape, hb0.output, by simpa using hb0.size, fun k hk => ?_⟩
      rw [Below.heap_setCell _ _ _ _ (by show k ≠ w.heap.size; omega), Below.heap_setCell _ _ _ _ (by show k ≠ w.heap.size; omega), Below.heap_setCell _ _ _ _ (by show k ≠ w.heap.size; omega)]
      exact hb0.block k hk
    · exact ((Blk.set HE1.out 2 _).set 3 _).set 4 _
    · exact ((Blk.other HR1.out (by show w.heap.size + 1 ≠ w.heap.size; omega) _).other (by show w.heap.size + 1 ≠ w.heap.size; omega) _).other (by show w.heap.size + 1 ≠ w.heap.size; omega) _
  case rest =>
  rename World => wx
  obtain ⟨hbx, hEx, hRx⟩ := hcut
  clear HWB HWZ HEW HRW hrnd e2 e3 e4
  have o1 : wx.cell? ⟨w.heap.size, 1, none⟩ = some (.string e.oly) := hEx.cell 1
  have hof := ledgerOf_any wx H hm Ls p G e.oly (HH.out.below hbx) HOK.out.2.1 HE.out.oly
  have HBX : Hid _ := hbx
  have HEX : Hid _ := hEx
  have HRX : Hid _ := hRx
  have hEl := hEx.lt
  have hRl := hRx.lt
  clear hbx hEx hRx
  go_wp2_with fail
  refine hof.mono ?_
  rintro e1 wa ⟨p', G', rfl, hub1, hfr1⟩
  clear hof o1
  obtain ⟨i, hi⟩ : ∃ i, i = placeOf Ls e.oly := ⟨_, rfl⟩
  obtain ⟨L, hL⟩ : ∃ L, L = p' i := ⟨_, rfl⟩
  obtain ⟨m, hm'⟩ : ∃ m, m = ledAt (withL Ls e.oly) i := ⟨_, rfl⟩
  have hiL : i < (withL Ls e.oly).length := by rw [hi]; exact placeOf_lt _ _
  have hnf : ∀ b, w.heap.size ≤ b → ¬ hfoot H hm Ls.length G b := fun b hb hf => by
    have := HH.out.lt hf
    omega
  have hmok : m.Ok N := by rw [hm']; exact HOK.out.withL HE.out.oly _ (ledAt_mem hiL)
  have hmid : AppMid w H hm Ls G e vt vn vm vb L i m p' G' wa :=
    { hub := hub1, fr := (Framed.ofBelow HBX.out (Nat.le_refl _)).trans hfr1, hi := hiL, hL := hL, hm := hm', led := by rw [hL, hm']; exact hub1.led i hiL
      st := by rw [hm', hi]; rfl
      rf := by rw [hm', hi]; rfl
      blkE := (hfr1.block _ hEl (hnf _ (Nat.le_refl _))).trans HEX.out
      blkR := (hfr1.block _ hRl (hnf _ (by omega))).trans HRX.out
      nE := fun hg => by
        rcases hfr1.inside w.heap.size (Or.inr (Or.inr ⟨i, hiL, hg⟩)) with h1 | h1
        · exact hnf _ (Nat.le_refl _) h1
        · omega
      nR := fun hg => by
        rcases hfr1.inside (w.heap.size + 1) (Or.inr (Or.inr ⟨i, hiL, hg⟩)) with h1 | h1
        · exact hnf _ (by omega) h1
        · omega }
  have HMID : Hid (AppMid w H hm Ls G e vt vn vm vb L i m p' G' wa) := hmid
  have HMOK : Hid (m.Ok N) := hmok
  have k0 : wa.cell? ⟨w.heap.size, 0, none⟩ = some (.int .i64 e.kind) := hmid.blkE.cell 0
  rw [← hi, ← hL]
  have hszw : wx.heap.size ≤ wa.heap.size := hfr1.size
  clear hub1 hfr1 hi hL hm' hiL hnf hmok hmid HBX HEX HRX hEl hRl
  rw [HKD.out] at k0
  obtain ⟨x, hx⟩ := HMID.out.led
  have a14 : wa.cell? ⟨w.heap.size, 14, none⟩ = some (.int .i64 e.left) := HMID.out.blkE.cell 14
  have l8 : wa.cell? ⟨L, 8, none⟩ = some (.int .i64 m.fz) := hx.led.cell 8
  have l9 : wa.cell? ⟨L, 9, none⟩ = some (.bool m.fzs) := hx.led.cell 9
  have f8 := hx.led.frozen 8
  have f9 := hx.led.frozen 9
  have FIN := hx.put1 (m' := { m with fz := e.left, fzs := true }) rfl rfl rfl rfl rfl (w' := (wa.setCell ⟨L, 8, none⟩ (.int .i64 e.left)).setCell ⟨L, 9, none⟩ (.bool true)) ((hx.led.set 8 _).set 9 _)
    (fun k hk => (Below.heap_setCell _ _ _ _ hk).trans (Below.heap_setCell _ _ _ _ hk)) (by simp) ⟨rfl, rfl, rfl⟩
  have HF : Hid _ := FIN
  clear FIN hx
  go_wp2
  go_ret
  obtain ⟨F', g1, g2⟩ := HF.out
  have hst : m.step e = { m with fz := e.left, fzs := true } := by unfold PLed.step; simp [HKD.out]
  exact HMID.out.fin (by rw [hst]; exact g1) g2 (by rw [refB_not' (by rw [HKD.out]; decide)]; rfl)
set_option maxRecDepth 20000 in
set_option maxHeartbeats 4000000 in
theorem apply_k9 (w : World) (H hm : Nat) (Ls : List PLed) (p : Nat → Nat) (G : Nat → Nat → Prop) (N : Nat) (e : PEv) (vt vn vm vb : Value) (h : HubAt w 9 H hm Ls p G) (hok : AllOk Ls N) (hN : N < 4096) (he : e.Ok) (hkd : e.kind = 9) :
    Calls Tryf.prog 34 #[.pointer (some ⟨H, 0, none⟩), .agg (evC e vt vn vm), .agg (recC vb e)] w (ApplyPost w H hm Ls G e) := by
  have HKD : Hid _ := hkd
  have HNN : Hid (N < 4096) := hN
  clear hkd
  obtain ⟨W, hW⟩ : ∃ W, W = (w.alloc (.cells (evC e vt vn vm) 97)).alloc (.cells (recC vb e) 100) := ⟨_, rfl⟩
  have hWb : Below w.heap.size w W := by rw [hW]; exact ((Below.refl _ _).alloc (Nat.le_refl _) _).alloc (by simp) _
  have hWz : W.heap.size = w.heap.size + 2 := by rw [hW]; simp
  have hEW : Blk W w.heap.size (evC e vt vn vm) 97 := by rw [hW]; exact (Blk.new _ _ _).alloc _
  have hRW : Blk W (w.heap.size + 1) (recC vb e) 100 := by
    have := Blk.new (w.alloc (.cells (evC e vt vn vm) 97)) (recC vb e) 100
    rw [hW]
    simpa using this
  have e2 : W.cell? ⟨w.heap.size, 2, none⟩ = some (.int .u64 (nsOf e.at_)) := hEW.cell 2
  have e3 : W.cell? ⟨w.heap.size, 3, none⟩ = some (.int .i64 (scOf e.at_)) := hEW.cell 3
  have e4 : W.cell? ⟨w.heap.size, 4, none⟩ = some (.pointer none) := hEW.cell 4
  have hrnd := round_any (nsOf e.at_) (scOf e.at_) W (nsOf_pos _) (nsOf_lt _)
  have HW : Hid (W = (w.alloc (.cells (evC e vt vn vm) 97)).alloc (.cells (recC vb e) 100)) := hW
  have HWB : Hid (Below w.heap.size w W) := hWb
  have HWZ : Hid (W.heap.size = w.heap.size + 2) := hWz
  have HEW : Hid (Blk W w.heap.size (evC e vt vn vm) 97) := hEW
  have HRW : Hid (Blk W (w.heap.size + 1) (recC vb e) 100) := hRW
  have HH : Hid (HubAt w 9 H hm Ls p G) := h
  have HOK : Hid (AllOk Ls N) := hok
  have HE : Hid e.Ok := he
  unfold tm at hrnd
  clear hW hWb hWz hEW hRW h hok he
  unfold evC recC at HW ⊢
  go_enter Tryf.func34, Tryf.ntmps34
  go_upto_region 1 with fail
  rw [← HW.out]
  clear HW
  go_cut [] from 8 to 11 (fun wx => Below w.heap.size w wx ∧ Blk wx w.heap.size (evC e vt vn vm) 97 ∧ Blk wx (w.heap.size + 1) (recC vb e) 100)
  case first =>
    go_wp2_with fail
    refine hrnd.mono ?_
    rintro e1 w1 ⟨rfl, hb1⟩
    have hE1 := HEW.out.below hb1 (by rw [HWZ.out]; omega)
    have hR1 := HRW.out.below hb1 (by rw [HWZ.out]; omega)
    have g2 : w1.cell? ⟨w.heap.size, 2, none⟩ = some (.int .u64 (nsOf e.at_)) := hE1.cell 2
    have g3 : w1.cell? ⟨w.heap.size, 3, none⟩ = some (.int .i64 (scOf e.at_)) := hE1.cell 3
    have g4 : w1.cell? ⟨w.heap.size, 4, none⟩ = some (.pointer none) := hE1.cell 4
    have f2 := hE1.frozen 2
    have f3 := hE1.frozen 3
    have f4 := hE1.frozen 4
    have HE1 : Hid _ := hE1
    have HR1 : Hid _ := hR1
    have HB1 : Hid _ := hb1
    clear hE1 hR1 hb1 hrnd e2 e3 e4
    unfold tm
    go_wp2
    go_meet
    refine ⟨?_, ?_, ?_⟩
    · have hb0 : Below w.heap.size w w1 := HWB.out.trans (HB1.out.mono (by rw [HWZ.out]; omega))
      refine ⟨hb0.os, hb0.tape, hb0.output, by simpa using hb0.size, fun k hk => ?_⟩
      rw [Below.heap_setCell _ _ _ _ (by show k ≠ w.heap.size; omega), Below.heap_setCell _ _ _ _ (by show k ≠ w.heap.size; omega), Below.heap_setCell _ _ _ _ (by show k ≠ w.heap.size; omega)]
      exact hb0.block k hk
    · exact ((Blk.set HE1.out 2 _).set 3 _).set 4 _
    · exact ((Blk.other HR1.out (by show w.heap.size + 1 ≠ w.heap.size; omega) _).other (by show w.heap.size + 1 ≠ w.heap.size; omega) _).other (by show w.heap.size + 1 ≠ w.heap.size; omega) _
  case rest =>
  rename World => wx
  obtain ⟨hbx, hEx, hRx⟩ := hcut
  clear HWB HWZ HEW HRW hrnd e2 e3 e4
  have o1 : wx.cell? ⟨w.heap.size, 1, none⟩ = some (.string e.oly) := hEx.cell 1
  have hof := ledgerOf_any wx H hm Ls p G e.oly (HH.out.below hbx) HOK.out.2.1 HE.out.oly
  have HBX : Hid _ := hbx
  have HEX : Hid _ := hEx
  have HRX : Hid _ := hRx
  have hEl := hEx.lt
  have hRl := hRx.lt
  clear hbx hEx hRx
  go_wp2_with fail
  refine hof.mono ?_
  rintro e1 wa ⟨p', G', rfl, hub1, hfr1⟩
  clear hof o1
  obtain ⟨i, hi⟩ : ∃ i, i = placeOf Ls e.oly := ⟨_, rfl⟩
  obtain ⟨L, hL⟩ : ∃ L, L = p' i := ⟨_, rfl⟩
  obtain ⟨m, hm'⟩ : ∃ m, m = ledAt (withL Ls e.oly) i := ⟨_, rfl⟩
  have hiL : i < (withL Ls e.oly).length := by rw [hi]; exact placeOf_lt _ _
  have hnf : ∀ b, w.heap.size ≤ b → ¬ hfoot H hm Ls.length G b := fun b hb hf => by
    have := HH.out.lt hf
    omega
  have hmok : m.Ok N := by rw [hm']; exact HOK.out.withL HE.out.oly _ (ledAt_mem hiL)
  have hmid : AppMid w H hm Ls G e vt vn vm vb L i m p' G' wa :=
    { hub := hub1, fr := (Framed.ofBelow HBX.out (Nat.le_refl _)).trans hfr1, hi := hiL, hL := hL, hm := hm', led := by rw [hL, hm']; exact hub1.led i hiL
      st := by rw [hm', hi]; rfl
      rf := by rw [hm', hi]; rfl
      blkE := (hfr1.block _ hEl (hnf _ (Nat.le_refl _))).trans HEX.out
      blkR := (hfr1.block _ hRl (hnf _ (by omega))).trans HRX.out
      nE := fun hg => by
        rcases hfr1.inside w.heap.size (Or.inr (Or.inr ⟨i, hiL, hg⟩)) with h1 | h1
        · exact hnf _ (Nat.le_refl _) h1
        · omega
      nR := fun hg => by
        rcases hfr1.inside (w.heap.size + 1) (Or.inr (Or.inr ⟨i, hiL, hg⟩)) with h1 | h1
        · exact hnf _ (by omega) h1
        · omega }
  have HMID : Hid (AppMid w H hm Ls G e vt vn vm vb L i m p' G' wa) := hmid
  have HMOK : Hid (m.Ok N) := hmok
  have k0 : wa.cell? ⟨w.heap.size, 0, none⟩ = some (.int .i64 e.kind) := hmid.blkE.cell 0
  rw [← hi, ← hL]
  have hszw : wx.heap.size ≤ wa.heap.size := hfr1.size
  clear hub1 hfr1 hi hL hm' hiL hnf hmok hmid HBX HEX HRX hEl hRl
  rw [HKD.out] at k0
  obtain ⟨x, hx⟩ := HMID.out.led
  obtain ⟨ra, rc, hvr⟩ := owns_form hx.recs
  obtain ⟨rn, hrn⟩ : ∃ rn, rn = m.recs.length := ⟨_, rfl⟩
  have l13 : wa.cell? ⟨L, 13, none⟩ = some (.slice ra rn rc) := by rw [hrn, ← hvr]; exact hx.led.cell 13
  have l15 : wa.cell? ⟨L, 15, none⟩ = some (.int .i64 m.shown) := hx.led.cell 15
  have f15 := hx.led.frozen 15
  have FIN := hx.put1 (m' := { m with shown := m.recs.length }) rfl rfl rfl rfl rfl (w' := wa.setCell ⟨L, 15, none⟩ (.int .i64 m.recs.length)) (hx.led.set 15 _)
    (fun k hk => Below.heap_setCell _ _ _ _ hk) (by simp) ⟨rfl, rfl, rfl⟩
  rw [← hrn] at FIN
  have HF : Hid _ := FIN
  have HRN : Hid _ := hrn
  clear FIN hx hvr hrn
  go_wp2
  go_ret
  obtain ⟨F', g1, g2⟩ := HF.out
  have hst : m.step e = { m with shown := rn } := by unfold PLed.step; simp [HKD.out, HRN.out]
  exact HMID.out.fin (by rw [hst]; exact g1) g2 (by rw [refB_not' (by rw [HKD.out]; decide)]; rfl)
set_option maxRecDepth 20000 in
set_option maxHeartbeats 4000000 in
theorem apply_k6 (w : World) (H hm : Nat) (Ls : List PLed) (p : Nat → Nat) (G : Nat → Nat → Prop) (N : Nat) (e : PEv) (vt vn vm vb : Value) (h : HubAt w 9 H hm Ls p G) (hok : AllOk Ls N) (hN : N < 4096) (he : e.Ok) (hkd : e.kind = 6) :
    Calls Tryf.prog 34 #[.pointer (some ⟨H, 0, none⟩), .agg (evC e vt vn vm), .agg (recC vb e)] w (ApplyPost w H hm Ls G e) := by
  have HKD : Hid _ := hkd
  have HNN : Hid (N < 4096) := hN
  clear hkd
  obtain ⟨W, hW⟩ : ∃ W, W = (w.alloc (.cells (evC e vt vn vm) 97)).alloc (.cells (recC vb e) 100) := ⟨_, rfl⟩
  have hWb : Below w.heap.size w W := by rw [hW]; exact ((Below.refl _ _).alloc (Nat.le_refl _) _).alloc (by simp) _
  have hWz : W.heap.size = w.heap.size + 2 := by rw [hW]; simp
  have hEW : Blk W w.heap.size (evC e vt vn vm) 97 := by rw [hW]; exact (Blk.new _ _ _).alloc _
  have hRW : Blk W (w.heap.size + 1) (recC vb e) 100 := by
    have := Blk.new (w.alloc (.cells (evC e vt vn vm) 97)) (recC vb e) 100
    rw [hW]
    simpa using this
  have e2 : W.cell? ⟨w.heap.size, 2, none⟩ = some (.int .u64 (nsOf e.at_)) := hEW.cell 2
  have e3 : W.cell? ⟨w.heap.size, 3, none⟩ = some (.int .i64 (scOf e.at_)) := hEW.cell 3
  have e4 : W.cell? ⟨w.heap.size, 4, none⟩ = some (.pointer none) := hEW.cell 4
  have hrnd := round_any (nsOf e.at_) (scOf e.at_) W (nsOf_pos _) (nsOf_lt _)
  have HW : Hid (W = (w.alloc (.cells (evC e vt vn vm) 97)).alloc (.cells (recC vb e) 100)) := hW
  have HWB : Hid (Below w.heap.size w W) := hWb
  have HWZ : Hid (W.heap.size = w.heap.size + 2) := hWz
  have HEW : Hid (Blk W w.heap.size (evC e vt vn vm) 97) := hEW
  have HRW : Hid (Blk W (w.heap.size + 1) (recC vb e) 100) := hRW
  have HH : Hid (HubAt w 9 H hm Ls p G) := h
  have HOK : Hid (AllOk Ls N) := hok
  have HE : Hid e.Ok := he
  unfold tm at hrnd
  clear hW hWb hWz hEW hRW h hok he
  unfold evC recC at HW ⊢
  go_enter Tryf.func34, Tryf.ntmps34
  go_upto_region 1 with fail
  rw [← HW.out]
  clear HW
  go_cut [] from 8 to 11 (fun wx => Below w.heap.size w wx ∧ Blk wx w.heap.size (evC e vt vn vm) 97 ∧ Blk wx (w.heap.size + 1) (recC vb e) 100)
  case first =>
    go_wp2_with fail
    refine hrnd.mono ?_
    rintro e1 w1 ⟨rfl, hb1⟩
    have hE1 := HEW.out.below hb1 (by rw [HWZ.out]; omega)
    have hR1 := HRW.out.below hb1 (by rw [HWZ.out]; omega)
    have g2 : w1.cell? ⟨w.heap.size, 2, none⟩ = some (.int .u64 (nsOf e.at_)) := hE1.cell 2
    have g3 : w1.cell? ⟨w.heap.size, 3, none⟩ = some (.int .i64 (scOf e.at_)) := hE1.cell 3
    have g4 : w1.cell? ⟨w.heap.size, 4, none⟩ = some (.pointer none) := hE1.cell 4
    have f2 := hE1.frozen 2
    have f3 := hE1.frozen 3
    have f4 := hE1.frozen 4
    have HE1 : Hid _ := hE1
    have HR1 : Hid _ := hR1
    have HB1 : Hid _ := hb1
    clear hE1 hR1 hb1 hrnd e2 e3 e4
    unfold tm
    go_wp2
    go_meet
    refine ⟨?_, ?_, ?_⟩
    · have hb0 : Below w.heap.size w w1 := HWB.out.trans (HB1.out.mono (by rw [HWZ.out]; omega))
      refine ⟨hb0.os, hb0.tape, hb0.output, by simpa using hb0.size, fun k hk => ?_⟩
      rw [Below.heap_setCell _ _ _ _ (by show k ≠ w.heap.size; omega), Below.heap_setCell _ _ _ _ (by show k ≠ w.heap.size; omega), Below.heap_setCell _ _ _ _ (by show k ≠ w.heap.size; omega)]
      exact hb0.block k hk
    · exact ((Blk.set HE1.out 2 _).set 3 _).set 4 _
    · exact ((Blk.other HR1.out (by show w.heap.size + 1 ≠ w.heap.size; omega) _).other (by show w.heap.size + 1 ≠ w.heap.size; omega) _).other (by show w.heap.size + 1 ≠ w.heap.size; omega) _
  case rest =>
  rename World => wx
  obtain ⟨hbx, hEx, hRx⟩ := hcut
  clear HWB HWZ HEW HRW hrnd e2 e3 e4
  have o1 : wx.cell? ⟨w.heap.size, 1, none⟩ = some (.string e.oly) := hEx.cell 1
  have hof := ledgerOf_any wx H hm Ls p G e.oly (HH.out.below hbx) HOK.out.2.1 HE.out.oly
  have HBX : Hid _ := hbx
  have HEX : Hid _ := hEx
  have HRX : Hid _ := hRx
  have hEl := hEx.lt
  have hRl := hRx.lt
  clear hbx hEx hRx
  go_wp2_with fail
  refine hof.mono ?_
  rintro e1 wa ⟨p', G', rfl, hub1, hfr1⟩
  clear hof o1
  obtain ⟨i, hi⟩ : ∃ i, i = placeOf Ls e.oly := ⟨_, rfl⟩
  obtain ⟨L, hL⟩ : ∃ L, L = p' i := ⟨_, rfl⟩
  obtain ⟨m, hm'⟩ : ∃ m, m = ledAt (withL Ls e.oly) i := ⟨_, rfl⟩
  have hiL : i < (withL Ls e.oly).length := by rw [hi]; exact placeOf_lt _ _
  have hnf : ∀ b, w.heap.size ≤ b → ¬ hfoot H hm Ls.length G b := fun b hb hf => by
    have := HH.out.lt hf
    omega
  have hmok : m.Ok N := by rw [hm']; exact HOK.out.withL HE.out.oly _ (ledAt_mem hiL)
  have hmid : AppMid w H hm Ls G e vt vn vm vb L i m p' G' wa :=
    { hub := hub1, fr := (Framed.ofBelow HBX.out (Nat.le_refl _)).trans hfr1, hi := hiL, hL := hL, hm := hm', led := by rw [hL, hm']; exact hub1.led i hiL
      st := by rw [hm', hi]; rfl
      rf := by rw [hm', hi]; rfl
      blkE := (hfr1.block _ hEl (hnf _ (Nat.le_refl _))).trans HEX.out
      blkR := (hfr1.block _ hRl (hnf _ (by omega))).trans HRX.out
      nE := fun hg => by
        rcases hfr1.inside w.heap.size (Or.inr (Or.inr ⟨i, hiL, hg⟩)) with h1 | h1
        · exact hnf _ (Nat.le_refl _) h1
        · omega
      nR := fun hg => by
        rcases hfr1.inside (w.heap.size + 1) (Or.inr (Or.inr ⟨i, hiL, hg⟩)) with h1 | h1
        · exact hnf _ (by omega) h1
        · omega }
  have HMID : Hid (AppMid w H hm Ls G e vt vn vm vb L i m p' G' wa) := hmid
  have HMOK : Hid (m.Ok N) := hmok
  have k0 : wa.cell? ⟨w.heap.size, 0, none⟩ = some (.int .i64 e.kind) := hmid.blkE.cell 0
  rw [← hi, ← hL]
  have hszw : wx.heap.size ≤ wa.heap.size := hfr1.size
  clear hub1 hfr1 hi hL hm' hiL hnf hmok hmid HBX HEX HRX hEl hRl
  rw [HKD.out] at k0
  have a5 : wa.cell? ⟨w.heap.size, 5, none⟩ = some (.string e.team) := HMID.out.blkE.cell 5
  have hcall := disqualify_any wa (G' i) L m N e.team HMID.out.led HMOK.out (by have := HNN.out; omega) HE.out.team
  go_wp2_with fail
  refine hcall.mono ?_
  rintro e2 wb ⟨rfl, F', g1, g2⟩
  have HG1 : Hid _ := g1
  have HG2 : Hid _ := g2
  clear g1 g2 hcall
  go_wp2
  go_ret
  have g1 := HG1.out
  have g2 := HG2.out
  have hst : m.step e = m.disqualify e.team := by unfold PLed.step; simp [HKD.out]
  exact HMID.out.fin (by rw [hst]; exact g1) g2 (by rw [refB_not' (by rw [HKD.out]; decide)]; rfl)
set_option maxRecDepth 20000 in
set_option maxHeartbeats 4000000 in
theorem apply_k8 (w : World) (H hm : Nat) (Ls : List PLed) (p : Nat → Nat) (G : Nat → Nat → Prop) (N : Nat) (e : PEv) (vt vn vm vb : Value) (h : HubAt w 9 H hm Ls p G) (hok : AllOk Ls N) (hN : N < 4096) (he : e.Ok) (hkd : e.kind = 8) :
    Calls Tryf.prog 34 #[.pointer (some ⟨H, 0, none⟩), .agg (evC e vt vn vm), .agg (recC vb e)] w (ApplyPost w H hm Ls G e) := by
  have HKD : Hid _ := hkd
  have HNN : Hid (N < 4096) := hN
  clear hkd
  obtain ⟨W, hW⟩ : ∃ W, W = (w.alloc (.cells (evC e vt vn vm) 97)).alloc (.cells (recC vb e) 100) := ⟨_, rfl⟩
  have hWb : Below w.heap.size w W := by rw [hW]; exact ((Below.refl _ _).alloc (Nat.le_refl _) _).alloc (by simp) _
  have hWz : W.heap.size = w.heap.size + 2 := by rw [hW]; simp
  have hEW : Blk W w.heap.size (evC e vt vn vm) 97 := by rw [hW]; exact (Blk.new _ _ _).alloc _
  have hRW : Blk W (w.heap.size + 1) (recC vb e) 100 := by
    have := Blk.new (w.alloc (.cells (evC e vt vn vm) 97)) (recC vb e) 100
    rw [hW]
    simpa using this
  have e2 : W.cell? ⟨w.heap.size, 2, none⟩ = some (.int .u64 (nsOf e.at_)) := hEW.cell 2
  have e3 : W.cell? ⟨w.heap.size, 3, none⟩ = some (.int .i64 (scOf e.at_)) := hEW.cell 3
  have e4 : W.cell? ⟨w.heap.size, 4, none⟩ = some (.pointer none) := hEW.cell 4
  have hrnd := round_any (nsOf e.at_) (scOf e.at_) W (nsOf_pos _) (nsOf_lt _)
  have HW : Hid (W = (w.alloc (.cells (evC e vt vn vm) 97)).alloc (.cells (recC vb e) 100)) := hW
  have HWB : Hid (Below w.heap.size w W) := hWb
  have HWZ : Hid (W.heap.size = w.heap.size + 2) := hWz
  have HEW : Hid (Blk W w.heap.size (evC e vt vn vm) 97) := hEW
  have HRW : Hid (Blk W (w.heap.size + 1) (recC vb e) 100) := hRW
  have HH : Hid (HubAt w 9 H hm Ls p G) := h
  have HOK : Hid (AllOk Ls N) := hok
  have HE : Hid e.Ok := he
  unfold tm at hrnd
  clear hW hWb hWz hEW hRW h hok he
  unfold evC recC at HW ⊢
  go_enter Tryf.func34, Tryf.ntmps34
  go_upto_region 1 with fail
  rw [← HW.out]
  clear HW
  go_cut [] from 8 to 11 (fun wx => Below w.heap.size w wx ∧ Blk wx w.heap.size (evC e vt vn vm) 97 ∧ Blk wx (w.heap.size + 1) (recC vb e) 100)
  case first =>
    go_wp2_with fail
    refine hrnd.mono ?_
    rintro e1 w1 ⟨rfl, hb1⟩
    have hE1 := HEW.out.below hb1 (by rw [HWZ.out]; omega)
    have hR1 := HRW.out.below hb1 (by rw [HWZ.out]; omega)
    have g2 : w1.cell? ⟨w.heap.size, 2, none⟩ = some (.int .u64 (nsOf e.at_)) := hE1.cell 2
    have g3 : w1.cell? ⟨w.heap.size, 3, none⟩ = some (.int .i64 (scOf e.at_)) := hE1.cell 3
    have g4 : w1.cell? ⟨w.heap.size, 4, none⟩ = some (.pointer none) := hE1.cell 4
    have f2 := hE1.frozen 2
    have f3 := hE1.frozen 3
    have f4 := hE1.frozen 4
    have HE1 : Hid _ := hE1
    have HR1 : Hid _ := hR1
    have HB1 : Hid _ := hb1
    clear hE1 hR1 hb1 hrnd e2 e3 e4
    unfold tm
    go_wp2
    go_meet
    refine ⟨?_, ?_, ?_⟩
    · have hb0 : Below w.heap.size w w1 := HWB.out.trans (HB1.out.mono (by rw [HWZ.out]; omega))
      refine ⟨hb0.os, hb0.tape, hb0.output, by simpa using hb0.size, fun k hk => ?_⟩
      rw [Below.heap_setCell _ _ _ _ (by show k ≠ w.heap.size; omega), Below.heap_setCell _ _ _ _ (by show k ≠ w.heap.size; omega), Below.heap_setCell _ _ _ _ (by show k ≠ w.heap.size; omega)]
      exact hb0.block k hk
    · exact ((Blk.set HE1.out 2 _).set 3 _).set 4 _
    · exact ((Blk.other HR1.out (by show w.heap.size + 1 ≠ w.heap.size; omega) _).other (by show w.heap.size + 1 ≠ w.heap.size; omega) _).other (by show w.heap.size + 1 ≠ w.heap.size; omega) _
  case rest =>
  rename World => wx
  obtain ⟨hbx, hEx, hRx⟩ := hcut
  clear HWB HWZ HEW HRW hrnd e2 e3 e4
  have o1 : wx.cell? ⟨w.heap.size, 1, none⟩ = some (.string e.oly) := hEx.cell 1
  have hof := ledgerOf_any wx H hm Ls p G e.oly (HH.out.below hbx) HOK.out.2.1 HE.out.oly
  have HBX : Hid _ := hbx
  have HEX : Hid _ := hEx
  have HRX : Hid _ := hRx
  have hEl := hEx.lt
  have hRl := hRx.lt
  clear hbx hEx hRx
  go_wp2_with fail
  refine hof.mono ?_
  rintro e1 wa ⟨p', G', rfl, hub1, hfr1⟩
  clear hof o1
  obtain ⟨i, hi⟩ : ∃ i, i = placeOf Ls e.oly := ⟨_, rfl⟩
  obtain ⟨L, hL⟩ : ∃ L, L = p' i := ⟨_, rfl⟩
  obtain ⟨m, hm'⟩ : ∃ m, m = ledAt (withL Ls e.oly) i := ⟨_, rfl⟩
  have hiL : i < (withL Ls e.oly).length := by rw [hi]; exact placeOf_lt _ _
  have hnf : ∀ b, w.heap.size ≤ b → ¬ hfoot H hm Ls.length G b := fun b hb hf => by
    have := HH.out.lt hf
    omega
  have hmok : m.Ok N := by rw [hm']; exact HOK.out.withL HE.out.oly _ (ledAt_mem hiL)
  have hmid : AppMid w H hm Ls G e vt vn vm vb L i m p' G' wa :=
    { hub := hub1, fr := (Framed.ofBelow HBX.out (Nat.le_refl _)).trans hfr1, hi := hiL, hL := hL, hm := hm', led := by rw [hL, hm']; exact hub1.led i hiL
      st := by rw [hm', hi]; rfl
      rf := by rw [hm', hi]; rfl
      blkE := (hfr1.block _ hEl (hnf _ (Nat.le_refl _))).trans HEX.out
      blkR := (hfr1.block _ hRl (hnf _ (by omega))).trans HRX.out
      nE := fun hg => by
        rcases hfr1.inside w.heap.size (Or.inr (Or.inr ⟨i, hiL, hg⟩)) with h1 | h1
        · exact hnf _ (Nat.le_refl _) h1
        · omega
      nR := fun hg => by
        rcases hfr1.inside (w.heap.size + 1) (Or.inr (Or.inr ⟨i, hiL, hg⟩)) with h1 | h1
        · exact hnf _ (by omega) h1
        · omega }
  have HMID : Hid (AppMid w H hm Ls G e vt vn vm vb L i m p' G' wa) := hmid
  have HMOK : Hid (m.Ok N) := hmok
  have k0 : wa.cell? ⟨w.heap.size, 0, none⟩ = some (.int .i64 e.kind) := hmid.blkE.cell 0
  rw [← hi, ← hL]
  have hszw : wx.heap.size ≤ wa.heap.size := hfr1.size
  clear hub1 hfr1 hi hL hm' hiL hnf hmok hmid HBX HEX HRX hEl hRl
  rw [HKD.out] at k0
  have a15 : wa.cell? ⟨w.heap.size, 15, none⟩ = some (.bool e.frozen) := HMID.out.blkE.cell 15
  have hcall := setFrozen_any wa (G' i) L m e.frozen HMID.out.led
  go_wp2_with fail
  refine hcall.mono ?_
  rintro e2 wb ⟨rfl, F', g1, g2⟩
  have HG1 : Hid _ := g1
  have HG2 : Hid _ := g2
  clear g1 g2 hcall
  go_wp2
  go_ret
  have g1 := HG1.out
  have g2 := HG2.out
  have hst : m.step e = m.setFrozen e.frozen := by unfold PLed.step; simp [HKD.out]
  exact HMID.out.fin (by rw [hst]; exact g1) g2 (by rw [refB_not' (by rw [HKD.out]; decide)]; rfl)
set_option maxRecDepth 20000 in
set_option maxHeartbeats 4000000 in
theorem apply_ko (w : World) (H hm : Nat) (Ls : List PLed) (p : Nat → Nat) (G : Nat → Nat → Prop) (N : Nat) (e : PEv) (vt vn vm vb : Value) (h : HubAt w 9 H hm Ls p G) (hok : AllOk Ls N) (hN : N < 4096) (he : e.Ok) (hkd : ¬ e.kind = 1 ∧ ¬ e.kind = 2 ∧ ¬ e.kind = 3 ∧ ¬ e.kind = 4 ∧ ¬ e.kind = 5 ∧ ¬ e.kind = 6 ∧ ¬ e.kind = 7 ∧ ¬ e.kind = 8 ∧ ¬ e.kind = 9) :
    Calls Tryf.prog 34 #[.pointer (some ⟨H, 0, none⟩), .agg (evC e vt vn vm), .agg (recC vb e)] w (ApplyPost w H hm Ls G e) := by
  have HKD : Hid _ := hkd
  have HNN : Hid (N < 4096) := hN
  clear hkd
  obtain ⟨W, hW⟩ : ∃ W, W = (w.alloc (.cells (evC e vt vn vm) 97)).alloc (.cells (recC vb e) 100) := ⟨_, rfl⟩
  have hWb : Below w.heap.size w W := by rw [hW]; exact ((Below.refl _ _).alloc (Nat.le_refl _) _).alloc (by simp) _
  have hWz : W.heap.size = w.heap.size + 2 := by rw [hW]; simp
  have hEW : Blk W w.heap.size (evC e vt vn vm) 97 := by rw [hW]; exact (Blk.new _ _ _).alloc _
  have hRW : Blk W (w.heap.size + 1) (recC vb e) 100 := by
    have := Blk.new (w.alloc (.cells (evC e vt vn vm) 97)) (recC vb e) 100
    rw [hW]
    simpa using this
  have e2 : W.cell? ⟨w.heap.size, 2, none⟩ = some (.int .u64 (nsOf e.at_)) := hEW.cell 2
  have e3 : W.cell? ⟨w.heap.size, 3, none⟩ = some (.int .i64 (scOf e.at_)) := hEW.cell 3
  have e4 : W.cell? ⟨w.heap.size, 4, none⟩ = some (.pointer none) := hEW.cell 4
  have hrnd := round_any (nsOf e.at_) (scOf e.at_) W (nsOf_pos _) (nsOf_lt _)
  have HW : Hid (W = (w.alloc (.cells (evC e vt vn vm) 97)).alloc (.cells (recC vb e) 100)) := hW
  have HWB : Hid (Below w.heap.size w W) := hWb
  have HWZ : Hid (W.heap.size = w.heap.size + 2) := hWz
  have HEW : Hid (Blk W w.heap.size (evC e vt vn vm) 97) := hEW
  have HRW : Hid (Blk W (w.heap.size + 1) (recC vb e) 100) := hRW
  have HH : Hid (HubAt w 9 H hm Ls p G) := h
  have HOK : Hid (AllOk Ls N) := hok
  have HE : Hid e.Ok := he
  unfold tm at hrnd
  clear hW hWb hWz hEW hRW h hok he
  unfold evC recC at HW ⊢
  go_enter Tryf.func34, Tryf.ntmps34
  go_upto_region 1 with fail
  rw [← HW.out]
  clear HW
  go_cut [] from 8 to 11 (fun wx => Below w.heap.size w wx ∧ Blk wx w.heap.size (evC e vt vn vm) 97 ∧ Blk wx (w.heap.size + 1) (recC vb e) 100)
  case first =>
    go_wp2_with fail
    refine hrnd.mono ?_
    rintro e1 w1 ⟨rfl, hb1⟩
    have hE1 := HEW.out.below hb1 (by rw [HWZ.out]; omega)
    have hR1 := HRW.out.below hb1 (by rw [HWZ.out]; omega)
    have g2 : w1.cell? ⟨w.heap.size, 2, none⟩ = some (.int .u64 (nsOf e.at_)) := hE1.cell 2
    have g3 : w1.cell? ⟨w.heap.size, 3, none⟩ = some (.int .i64 (scOf e.at_)) := hE1.cell 3
    have g4 : w1.cell? ⟨w.heap.size, 4, none⟩ = some (.pointer none) := hE1.cell 4
    have f2 := hE1.frozen 2
    have f3 := hE1.frozen 3
    have f4 := hE1.frozen 4
    have HE1 : Hid _ := hE1
    have HR1 : Hid _ := hR1
    have HB1 : Hid _ := hb1
    clear hE1 hR1 hb1 hrnd e2 e3 e4
    unfold tm
    go_wp2
    go_meet
    refine ⟨?_, ?_, ?_⟩
    · have hb0 : Below w.heap.size w w1 := HWB.out.trans (HB1.out.mono (by rw [HWZ.out]; omega))
      refine ⟨hb0.os, hb0.tape, hb0.output, by simpa using hb0.size, fun k hk => ?_⟩
      rw [Below.heap_setCell _ _ _ _ (by show k ≠ w.heap.size; omega), Below.heap_setCell _ _ _ _ (by show k ≠ w.heap.size; omega), Below.heap_setCell _ _ _ _ (by show k ≠ w.heap.size; omega)]
      exact hb0.block k hk
    · exact ((Blk.set HE1.out 2 _).set 3 _).set 4 _
    · exact ((Blk.other HR1.out (by show w.heap.size + 1 ≠ w.heap.size; omega) _).other (by show w.heap.size + 1 ≠ w.heap.size; omega) _).other (by show w.heap.size + 1 ≠ w.heap.size; omega) _
  case rest =>
  rename World => wx
  obtain ⟨hbx, hEx, hRx⟩ := hcut
  clear HWB HWZ HEW HRW hrnd e2 e3 e4
  have o1 : wx.cell? ⟨w.heap.size, 1, none⟩ = some (.string e.oly) := hEx.cell 1
  have hof := ledgerOf_any wx H hm Ls p G e.oly (HH.out.below hbx) HOK.out.2.1 HE.out.oly
  have HBX : Hid _ := hbx
  have HEX : Hid _ := hEx
  have HRX : Hid _ := hRx
  have hEl := hEx.lt
  have hRl := hRx.lt
  clear hbx hEx hRx
  go_wp2_with fail
  refine hof.mono ?_
  rintro e1 wa ⟨p', G', rfl, hub1, hfr1⟩
  clear hof o1
  obtain ⟨i, hi⟩ : ∃ i, i = placeOf Ls e.oly := ⟨_, rfl⟩
  obtain ⟨L, hL⟩ : ∃ L, L = p' i := ⟨_, rfl⟩
  obtain ⟨m, hm'⟩ : ∃ m, m = ledAt (withL Ls e.oly) i := ⟨_, rfl⟩
  have hiL : i < (withL Ls e.oly).length := by rw [hi]; exact placeOf_lt _ _
  have hnf : ∀ b, w.heap.size ≤ b → ¬ hfoot H hm Ls.length G b := fun b hb hf => by
    have := HH.out.lt hf
    omega
  have hmok : m.Ok N := by rw [hm']; exact HOK.out.withL HE.out.oly _ (ledAt_mem hiL)
  have hmid : AppMid w H hm Ls G e vt vn vm vb L i m p' G' wa :=
    { hub := hub1, fr := (Framed.ofBelow HBX.out (Nat.le_refl _)).trans hfr1, hi := hiL, hL := hL, hm := hm', led := by rw [hL, hm']; exact hub1.led i hiL
      st := by rw [hm', hi]; rfl
      rf := by rw [hm', hi]; rfl
      blkE := (hfr1.block _ hEl (hnf _ (Nat.le_refl _))).trans HEX.out
      blkR := (hfr1.block _ hRl (hnf _ (by omega))).trans HRX.out
      nE := fun hg => by
        rcases hfr1.inside w.heap.size (Or.inr (Or.inr ⟨i, hiL, hg⟩)) with h1 | h1
        · exact hnf _ (Nat.le_refl _) h1
        · omega
      nR := fun hg => by
        rcases hfr1.inside (w.heap.size + 1) (Or.inr (Or.inr ⟨i, hiL, hg⟩)) with h1 | h1
        · exact hnf _ (by omega) h1
        · omega }
  have HMID : Hid (AppMid w H hm Ls G e vt vn vm vb L i m p' G' wa) := hmid
  have HMOK : Hid (m.Ok N) := hmok
  have k0 : wa.cell? ⟨w.heap.size, 0, none⟩ = some (.int .i64 e.kind) := hmid.blkE.cell 0
  rw [← hi, ← hL]
  have hszw : wx.heap.size ≤ wa.heap.size := hfr1.size
  clear hub1 hfr1 hi hL hm' hiL hnf hmok hmid HBX HEX HRX hEl hRl
  obtain ⟨q1, q2, q3, q4, q5, q6, q7, q8, q9⟩ := HKD.out
  have n1 : (e.kind == 1) = false := by simp [q1]
  have n2 : (e.kind == 2) = false := by simp [q2]
  have n3 : (e.kind == 3) = false := by simp [q3]
  have n4 : (e.kind == 4) = false := by simp [q4]
  have n5 : (e.kind == 5) = false := by simp [q5]
  have n6 : (e.kind == 6) = false := by simp [q6]
  have n7 : (e.kind == 7) = false := by simp [q7]
  have n8 : (e.kind == 8) = false := by simp [q8]
  have n9 : (e.kind == 9) = false := by simp [q9]
  have hq0 : m.step e = m := by unfold PLed.step; rw [if_neg q1, if_neg q2, if_neg q3, if_neg q4, if_neg q5, if_neg q6, if_neg q7, if_neg q8, if_neg q9]
  have HQ : Hid (m.step e = m) := hq0
  have HQ3 : Hid (¬ e.kind = 3) := q3
  clear HKD hq0
  go_wp2
  go_ret
  exact HMID.out.fin (by rw [HQ.out]; exact HMID.out.led) (Framed.refl _ _) (by rw [refB_not' HQ3.out]; rfl)
end Go.Proofs.Qxb6616853aFmt
