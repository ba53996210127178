import Derived.Test.Qxb6616853aFmtHubw
import Derived.Deep.CutRange
namespace Go.Proofs.Qxb6616853aFmt
open Go.RowKit Go.Extern.Stop Go.Stop Go.Extern
open Go.ChangeMaps (setBlock)
attribute [local go_sem ↓] Go.wp_at_zero Go.wp_at_succ

def ApplyPost (w : World) (H hm : Nat) (Ls : List PLed) (G : Nat → Nat → Prop) (ev : PEv) (e : Ending) (w' : World) : Prop :=
  ∃ v p' G', e = .returned v ∧ RetErr (refAll Ls ev) v ∧ HubAt w' 9 H hm (stepAll Ls ev) p' G' ∧ Framed w (hfoot H hm Ls.length G) w' (hfoot H hm (stepAll Ls ev).length G')

/-- Behind the look-up. -/
structure AppMid (w : World) (H hm : Nat) (Ls : List PLed) (G : Nat → Nat → Prop) (e : PEv) (vt vn vm vb : Value) (L i : Nat) (m : PLed) (p : Nat → Nat) (G' : Nat → Nat → Prop) (wx : World) : Prop where
  hub : HubAt wx 9 H hm (withL Ls e.oly) p G'
  fr : Framed w (hfoot H hm Ls.length G) wx (hfoot H hm (withL Ls e.oly).length G')
  hi : i < (withL Ls e.oly).length
  hL : L = p i
  hm : m = ledAt (withL Ls e.oly) i
  led : IsLed wx (G' i) L m
  st : stepAll Ls e = (withL Ls e.oly).set i (m.step e)
  rf : refAll Ls e = m.refB e
  blkE : Blk wx w.heap.size (evC e vt vn vm) 97
  blkR : Blk wx (w.heap.size + 1) (recC vb e) 100
  nE : ¬ G' i w.heap.size
  nR : ¬ G' i (w.heap.size + 1)

theorem AppMid.fin {w wx w' : World} {H hm : Nat} {Ls : List PLed} {G : Nat → Nat → Prop} {e : PEv} {vt vn vm vb : Value} {L i : Nat} {m : PLed} {p : Nat → Nat} {G' : Nat → Nat → Prop} (h : AppMid w H hm Ls G e vt vn vm vb L i m p G' wx) {F' : Nat → Prop} {v : Value}
    (hl : IsLed w' F' L (m.step e)) (hf : Framed wx (G' i) w' F') (hv : RetErr (m.refB e) v) : ApplyPost w H hm Ls G e (.returned v) w' := by
  have := h.hub.turn h.hi (m := m.step e) (F' := F') (by rw [PLed.step_name, h.hm]) (by rw [← h.hL]; exact hl) hf
  refine ⟨v, p, put1 G' i F', rfl, by rw [h.rf]; exact hv, ?_, ?_⟩
  · rw [h.st]
    exact this.1
  · rw [h.st]
    exact h.fr.trans this.2

theorem refB_not' {m : PLed} {e : PEv} (h : e.kind ≠ 3) : m.refB e = false := by
  unfold PLed.refB
  rw [decide_eq_false h]
  rfl

set_option maxRecDepth 20000 in
set_option maxHeartbeats 4000000 in
theorem apply_k1 (w : World) (H hm : Nat) (Ls : List PLed) (p : Nat → Nat) (G : Nat → Nat → Prop) (N : Nat) (e : PEv) (vt vn vm vb : Value) (h : HubAt w 9 H hm Ls p G) (hok : AllOk Ls N) (hN : N < 4096) (he : e.Ok) (hkd : e.kind = 1) :
    Calls Tryf.prog 34 #[.pointer (some ⟨H, 0, none⟩), .agg (evC e vt vn vm), .agg (recC vb e)] w (ApplyPost w H hm Ls G e) := by
  have HKD : Hid _ := hkd
  have HNN : Hid (N < 4096) := hN
  clear hkd
  obtain ⟨W, hW⟩ : ∃ W, W = (w.alloc (.cells (evC e vt vn vm) 97)).alloc (.cells (recC vb e) 100) := ⟨_, rfl⟩
  have hWb : Below w.heap.size w W := by rw [hW]; exact ((Below.refl _ _).alloc (Nat.le_refl _) _).alloc (by simp) _
  have hWz : W.heap.size = w.heap.size + 2 := by rw [hW]; simp
  have hEW : Blk W w.heap.size (evC e vt vn vm) 97 := by rw [hW]; exact (Blk.new _ _ _).alloc _
  have hRW : Blk W (w.heap.size + 1) (recC vb e) 100 := by
    have := Blk.new (w.alloc (.cells (evC e vt vn vm) 97)) (recC vb e) 100
    rw [hW]
    simpa using this
  have e2 : W.cell? ⟨w.heap.size, 2, none⟩ = some (.int .u64 (nsOf e.at_)) := hEW.cell 2
  have e3 : W.cell? ⟨w.heap.size, 3, none⟩ = some (.int .i64 (scOf e.at_)) := hEW.cell 3
  have e4 : W.cell? ⟨w.heap.size, 4, none⟩ = some (.pointer none) := hEW.cell 4
  have hrnd := round_any (nsOf e.at_) (scOf e.at_) W (nsOf_pos _) (nsOf_lt _)
  have HW : Hid (W = (w.alloc (.cells (evC e vt vn vm) 97)).alloc (.cells (recC vb e) 100)) := hW
  have HWB : Hid (Below w.heap.size w W) := hWb
  have HWZ : Hid (W.heap.size = w.heap.size + 2) := hWz
  have HEW : Hid (Blk W w.heap.size (evC e vt vn vm) 97) := hEW
  have HRW : Hid (Blk W (w.heap.size + 1) (recC vb e) 100) := hRW
  have HH : Hid (HubAt w 9 H hm Ls p G) := h
  have HOK : Hid (AllOk Ls N) := hok
  have HE : Hid e.Ok := he
  unfold tm at hrnd
  clear hW hWb hWz hEW hRW h hok he
  unfold evC recC at HW ⊢
  go_enter Tryf.func34, Tryf.ntmps34
  go_upto_region 1 with fail
  rw [← HW.out]
  clear HW
  go_cut [] from 8 to 11 (fun wx => Below w.heap.size w wx ∧ Blk wx w.heap.size (evC e vt vn vm) 97 ∧ Blk wx (w.heap.size + 1) (recC vb e) 100)
  case first =>
    go_wp2_with fail
    refine hrnd.mono ?_
    rintro e1 w1 ⟨rfl, hb1⟩
    have hE1 := HEW.out.below hb1 (by rw [HWZ.out]; omega)
    have hR1 := HRW.out.below hb1 (by rw [HWZ.out]; omega)
    have g2 : w1.cell? ⟨w.heap.size, 2, none⟩ = some (.int .u64 (nsOf e.at_)) := hE1.cell 2
    have g3 : w1.cell? ⟨w.heap.size, 3, none⟩ = some (.int .i64 (scOf e.at_)) := hE1.cell 3
    have g4 : w1.cell? ⟨w.heap.size, 4, none⟩ = some (.pointer none) := hE1.cell 4
    have f2 := hE1.frozen 2
    have f3 := hE1.frozen 3
    have f4 := hE1.frozen 4
    have HE1 : Hid _ := hE1
    have HR1 : Hid _ := hR1
    have HB1 : Hid _ := hb1
    clear hE1 hR1 hb1 hrnd e2 e3 e4
    unfold tm
    go_wp2
    go_meet
    refine ⟨?_, ?_, ?_⟩
    · have hb0 : Below w.heap.size w w1 := HWB.out.trans (HB1.out.mono (by rw [HWZ.out]; omega))
      refine ⟨hb0.os, hb0.tape, hb0.output, by simpa using hb0.size, fun k hk => ?_⟩
      rw [Below.heap_setCell _ _ _ _ (by show k ≠ w.heap.size; omega), Below.heap_setCell _ _ _ _ (by show k ≠ w.heap.size; omega), Below.heap_setCell _ _ _ _ (by show k ≠ w.heap.size; omega)]
      exact hb0.block k hk
    · exact ((Blk.set HE1.out 2 _).set 3 _).set 4 _
    · exact ((Blk.other HR1.out (by show w.heap.size + 1 ≠ w.heap.size; omega) _).other (by show w.heap.size + 1 ≠ w.heap.size; omega) _).other (by show w.heap.size + 1 ≠ w.heap.size; omega) _
  case rest =>
  rename World => wx
  obtain ⟨hbx, hEx, hRx⟩ := hcut
  clear HWB HWZ HEW HRW hrnd e2 e3 e4
  have o1 : wx.cell? ⟨w.heap.size, 1, none⟩ = some (.string e.oly) := hEx.cell 1
  have hof := ledgerOf_any wx H hm Ls p G e.oly (HH.out.below hbx) HOK.out.2.1 HE.out.oly
  have HBX : Hid _ := hbx
  have HEX : Hid _ := hEx
  have HRX : Hid _ := hRx
  have hEl := hEx.lt
  have hRl := hRx.lt
  clear hbx hEx hRx
  go_wp2_with fail
  refine hof.mono ?_
  rintro e1 wa ⟨p', G', rfl, hub1, hfr1⟩
  clear hof o1
  obtain ⟨i, hi⟩ : ∃ i, i = placeOf Ls e.oly := ⟨_, rfl⟩
  obtain ⟨L, hL⟩ : ∃ L, L = p' i := ⟨_, rfl⟩
  obtain ⟨m, hm'⟩ : ∃ m, m = ledAt (withL Ls e.oly) i := ⟨_, rfl⟩
  have hiL : i < (withL Ls e.oly).length := by rw [hi]; exact placeOf_lt _ _
  have hnf : ∀ b, w.heap.size ≤ b → ¬ hfoot H hm Ls.length G b := fun b hb hf => by
    have := HH.out.lt hf
    omega
  have hmok : m.Ok N := by rw [hm']; exact HOK.out.withL HE.out.oly _ (ledAt_mem hiL)
  have hmid : AppMid w H hm Ls G e vt vn vm vb L i m p' G' wa :=
    { hub := hub1, fr := (Framed.ofBelow HBX.out (Nat.le_refl _)).trans hfr1, hi := hiL, hL := hL, hm := hm', led := by rw [hL, hm']; exact hub1.led i hiL
      st := by rw [hm', hi]; rfl
      rf := by rw [hm', hi]; rfl
      blkE := (hfr1.block _ hEl (hnf _ (Nat.le_refl _))).trans HEX.out
      blkR := (hfr1.block _ hRl (hnf _ (by omega))).trans HRX.out
      nE := fun hg => by
        rcases hfr1.inside w.heap.size (Or.inr (Or.inr ⟨i, hiL, hg⟩)) with h1 | h1
        · exact hnf _ (Nat.le_refl _) h1
        · omega
      nR := fun hg => by
        rcases hfr1.inside (w.heap.size + 1) (Or.inr (Or.inr ⟨i, hiL, hg⟩)) with h1 | h1
        · exact hnf _ (by omega) h1
        · omega }
  have HMID : Hid (AppMid w H hm Ls G e vt vn vm vb L i m p' G' wa) := hmid
  have HMOK : Hid (m.Ok N) := hmok
  have k0 : wa.cell? ⟨w.heap.size, 0, none⟩ = some (.int .i64 e.kind) := hmid.blkE.cell 0
  rw [← hi, ← hL]
  have hszw : wx.heap.size ≤ wa.heap.size := hfr1.size
  clear hub1 hfr1 hi hL hm' hiL hnf hmok hmid HBX HEX HRX hEl hRl
  rw [HKD.out] at k0
  obtain ⟨x, hx⟩ := HMID.out.led
  have a2 : wa.cell? ⟨w.heap.size, 2, none⟩ = some (.int .u64 (nsOf e.at_)) := HMID.out.blkE.cell 2
  have a3 : wa.cell? ⟨w.heap.size, 3, none⟩ = some (.int .i64 (scOf e.at_)) := HMID.out.blkE.cell 3
  have a4 : wa.cell? ⟨w.heap.size, 4, none⟩ = some (.pointer none) := HMID.out.blkE.cell 4
  have l0 : wa.cell? ⟨L, 2, none⟩ = some (.int .u64 (nsOf m.st)) := hx.led.cell 2
  have l1 : wa.cell? ⟨L, 3, none⟩ = some (.int .i64 (scOf m.st)) := hx.led.cell 3
  have l2 : wa.cell? ⟨L, 4, none⟩ = some (.pointer none) := hx.led.cell 4
  have f0 := hx.led.frozen 2
  have f1 := hx.led.frozen 3
  have f2 := hx.led.frozen 4
  have FIN := hx.put1 (m' := { m with st := e.at_ }) rfl rfl rfl rfl rfl (w' := ((wa.setCell ⟨L, 2, none⟩ (.int .u64 (nsOf e.at_))).setCell ⟨L, 3, none⟩ (.int .i64 (scOf e.at_))).setCell ⟨L, 4, none⟩ (.pointer none)) (((hx.led.set 2 _).set 3 _).set 4 _)
    (fun k hk => (Below.heap_setCell _ _ _ _ hk).trans ((Below.heap_setCell _ _ _ _ hk).trans (Below.heap_setCell _ _ _ _ hk))) (by simp) ⟨rfl, rfl, rfl⟩
  have HF : Hid _ := FIN
  clear FIN hx
  go_wp2
  go_ret
  obtain ⟨F', g1, g2⟩ := HF.out
  have hst : m.step e = { m with st := e.at_ } := by unfold PLed.step; simp [HKD.out]
  exact HMID.out.fin (by rw [hst]; exact g1) g2 (by rw [refB_not' (by rw [HKD.out]; decide)]; rfl)
set_option maxRecDepth 20000 in
set_option maxHeartbeats 4000000 in
theorem apply_k4 (w : World) (H hm : Nat) (Ls : List PLed) (p : Nat → Nat) (G : Nat → Nat → Prop) (N : Nat) (e : PEv) (vt vn vm vb : Value) (h : HubAt w 9 H hm Ls p G) (hok : AllOk Ls N) (hN : N < 4096) (he : e.Ok) (hkd : e.kind = 4) :
    Calls Tryf.prog 34 #[.pointer (some ⟨H, 0, none⟩), .agg (evC e vt vn vm), .agg (recC vb e)] w (ApplyPost w H hm Ls G e) := by
  have HKD : Hid _ := hkd
  have HNN : Hid (N < 4096) := hN
  clear hkd
  obtain ⟨W, hW⟩ : ∃ W, W = (w.alloc (.cells (evC e vt vn vm) 97)).alloc (.cells (recC vb e) 100) := ⟨_, rfl⟩
  have hWb : Below w.heap.size w W := by rw [hW]; exact ((Below.refl _ _).alloc (Nat.le_refl _) _).alloc (by simp) _
  have hWz : W.heap.size = w.heap.size + 2 := by rw [hW]; simp
  have hEW : Blk W w.heap.size (evC e vt vn vm) 97 := by rw [hW]; exact (Blk.new _ _ _).alloc _
  have hRW : Blk W (w.heap.size + 1) (recC vb e) 100 := by
    have := Blk.new (w.alloc (.cells (evC e vt vn vm) 97)) (recC vb e) 100
    rw [hW]
    simpa using this
  have e2 : W.cell? ⟨w.heap.size, 2, none⟩ = some (.int .u64 (nsOf e.at_)) := hEW.cell 2
  have e3 : W.cell? ⟨w.heap.size, 3, none⟩ = some (.int .i64 (scOf e.at_)) := hEW.cell 3
  have e4 : W.cell? ⟨w.heap.size, 4, none⟩ = some (.pointer none) := hEW.cell 4
  have hrnd := round_any (nsOf e.at_) (scOf e.at_) W (nsOf_pos _) (nsOf_lt _)
  have HW : Hid (W = (w.alloc (.cells (evC e vt vn vm) 97)).alloc (.cells (recC vb e) 100)) := hW
  have HWB : Hid (Below w.heap.size w W) := hWb
  have HWZ : Hid (W.heap.size = w.heap.size + 2) := hWz
  have HEW : Hid (Blk W w.heap.size (evC e vt vn vm) 97) := hEW
  have HRW : Hid (Blk W (w.heap.size + 1) (recC vb e) 100) := hRW
  have HH : Hid (HubAt w 9 H hm Ls p G) := h
  have HOK : Hid (AllOk Ls N) := hok
  have HE : Hid e.Ok := he
  unfold tm at hrnd
  clear hW hWb hWz hEW hRW h hok he
  unfold evC recC at HW ⊢
  go_enter Tryf.func34, Tryf.ntmps34
  go_upto_region 1 with fail
  rw [← HW.out]
  clear HW
  go_cut [] from 8 to 11 (fun wx => Below w.heap.size w wx ∧ Blk wx w.heap.size (evC e vt vn vm) 97 ∧ Blk wx (w.heap.size + 1) (recC vb e) 100)
  case first =>
    go_wp2_with fail
    refine hrnd.mono ?_
    rintro e1 w1 ⟨rfl, hb1⟩
    have hE1 := HEW.out.below hb1 (by rw [HWZ.out]; omega)
    have hR1 := HRW.out.below hb1 (by rw [HWZ.out]; omega)
    have g2 : w1.cell? ⟨w.heap.size, 2, none⟩ = some (.int .u64 (nsOf e.at_)) := hE1.cell 2
    have g3 : w1.cell? ⟨w.heap.size, 3, none⟩ = some (.int .i64 (scOf e.at_)) := hE1.cell 3
    have g4 : w1.cell? ⟨w.heap.size, 4, none⟩ = some (.pointer none) := hE1.cell 4
    have f2 := hE1.frozen 2
    have f3 := hE1.frozen 3
    have f4 := hE1.frozen 4
    have HE1 : Hid _ := hE1
    have HR1 : Hid _ := hR1
    have HB1 : Hid _ := hb1
    clear hE1 hR1 hb1 hrnd e2 e3 e4
    unfold tm
    go_wp2
    go_meet
    refine ⟨?_, ?_, ?_⟩
    · have hb0 : Below w.heap.size w w1 := HWB.out.trans (HB1.out.mono (by rw [HWZ.out]; omega))
      refine ⟨hb0.os, hb0.tape, hb0.output, by simpa using hb0.size, fun k hk => ?_⟩
      rw [Below.heap_setCell _ _ _ _ (by show k ≠ w.heap.size; omega), Below.heap_setCell _ _ _ _ (by show k ≠ w.heap.size; omega), Below.heap_setCell _ _ _ _ (by show k ≠ w.heap.size; omega)]
      exact hb0.block k hk
    · exact ((Blk.set HE1.out 2 _).set 3 _).set 4 _
    · exact ((Blk.other HR1.out (by show w.heap.size + 1 ≠ w.heap.size; omega) _).other (by show w.heap.size + 1 ≠ w.heap.size; omega) _).other (by show w.heap.size + 1 ≠ w.heap.size; omega) _
  case rest =>
  rename World => wx
  obtain ⟨hbx, hEx, hRx⟩ := hcut
  clear HWB HWZ HEW HRW hrnd e2 e3 e4
  have o1 : wx.cell? ⟨w.heap.size, 1, none⟩ = some (.string e.oly) := hEx.cell 1
  have hof := ledgerOf_any wx H hm Ls p G e.oly (HH.out.below hbx) HOK.out.2.1 HE.out.oly
  have HBX : Hid _ := hbx
  have HEX : Hid _ := hEx
  have HRX : Hid _ := hRx
  have hEl := hEx.lt
  have hRl := hRx.lt
  clear hbx hEx hRx
  go_wp2_with fail
  refine hof.mono ?_
  rintro e1 wa ⟨p', G', rfl, hub1, hfr1⟩
  clear hof o1
  obtain ⟨i, hi⟩ : ∃ i, i = placeOf Ls e.oly := ⟨_, rfl⟩
  obtain ⟨L, hL⟩ : ∃ L, L = p' i := ⟨_, rfl⟩
  obtain ⟨m, hm'⟩ : ∃ m, m = ledAt (withL Ls e.oly) i := ⟨_, rfl⟩
  have hiL : i < (withL Ls e.oly).length := by rw [hi]; exact placeOf_lt _ _
  have hnf : ∀ b, w.heap.size ≤ b → ¬ hfoot H hm Ls.length G b := fun b hb hf => by
    have := HH.out.lt hf
    omega
  have hmok : m.Ok N := by rw [hm']; exact HOK.out.withL HE.out.oly _ (ledAt_mem hiL)
  have hmid : AppMid w H hm Ls G e vt vn vm vb L i m p' G' wa :=
    { hub := hub1, fr := (Framed.ofBelow HBX.out (Nat.le_refl _)).trans hfr1, hi := hiL, hL := hL, hm := hm', led := by rw [hL, hm']; exact hub1.led i hiL
      st := by rw [hm', hi]; rfl
      rf := by rw [hm', hi]; rfl
      blkE := (hfr1.block _ hEl (hnf _ (Nat.le_refl _))).trans HEX.out
      blkR := (hfr1.block _ hRl (hnf _ (by omega))).trans HRX.out
      nE := fun hg => by
        rcases hfr1.inside w.heap.size (Or.inr (Or.inr ⟨i, hiL, hg⟩)) with h1 | h1
        · exact hnf _ (Nat.le_refl _) h1
        · omega
      nR := fun hg => by
        rcases hfr1.inside (w.heap.size + 1) (Or.inr (Or.inr ⟨i, hiL, hg⟩)) with h1 | h1
        · exact hnf _ (by omega) h1
        · omega }
  have HMID : Hid (AppMid w H hm Ls G e vt vn vm vb L i m p' G' wa) := hmid
  have HMOK : Hid (m.Ok N) := hmok
  have k0 : wa.cell? ⟨w.heap.size, 0, none⟩ = some (.int .i64 e.kind) := hmid.blkE.cell 0
  rw [← hi, ← hL]
  have hszw : wx.heap.size ≤ wa.heap.size := hfr1.size
  clear hub1 hfr1 hi hL hm' hiL hnf hmok hmid HBX HEX HRX hEl hRl
  rw [HKD.out] at k0
  obtain ⟨x, hx⟩ := HMID.out.led
  have a2 : wa.cell? ⟨w.heap.size, 2, none⟩ = some (.int .u64 (nsOf e.at_)) := HMID.out.blkE.cell 2
  have a3 : wa.cell? ⟨w.heap.size, 3, none⟩ = some (.int .i64 (scOf e.at_)) := HMID.out.blkE.cell 3
  have a4 : wa.cell? ⟨w.heap.size, 4, none⟩ = some (.pointer none) := HMID.out.blkE.cell 4
  have l0 : wa.cell? ⟨L, 5, none⟩ = some (.int .u64 (nsOf m.en)) := hx.led.cell 5
  have l1 : wa.cell? ⟨L, 6, none⟩ = some (.int .i64 (scOf m.en)) := hx.led.cell 6
  have l2 : wa.cell? ⟨L, 7, none⟩ = some (.pointer none) := hx.led.cell 7
  have f0 := hx.led.frozen 5
  have f1 := hx.led.frozen 6
  have f2 := hx.led.frozen 7
  have FIN := hx.put1 (m' := { m with en := e.at_ }) rfl rfl rfl rfl rfl (w' := ((wa.setCell ⟨L, 5, none⟩ (.int .u64 (nsOf e.at_))).setCell ⟨L, 6, none⟩ (.int .i64 (scOf e.at_))).setCell ⟨L, 7, none⟩ (.pointer none)) (((hx.led.set 5 _).set 6 _).set 7 _)
    (fun k hk => (Below.heap_setCell _ _ _ _ hk).trans ((Below.heap_setCell _ _ _ _ hk).trans (Below.heap_setCell _ _ _ _ hk))) (by simp) ⟨rfl, rfl, rfl⟩
  have HF : Hid _ := FIN
  clear FIN hx
  go_wp2
  go_ret
  obtain ⟨F', g1, g2⟩ := HF.out
  have hst : m.step e = { m with en := e.at_ } := by unfold PLed.step; simp [HKD.out]
  exact HMID.out.fin (by rw [hst]; exact g1) g2 (by rw [refB_not' (by rw [HKD.out]; decide)]; rfl)
end Go.Proofs.Qxb6616853aFmt
