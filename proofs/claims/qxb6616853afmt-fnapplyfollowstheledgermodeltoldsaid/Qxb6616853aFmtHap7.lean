import Derived.Test.Qxb6616853aFmtHap2
namespace Go.Proofs.Qxb6616853aFmt
open Go.RowKit Go.Extern.Stop Go.Stop Go.Extern
open Go.ChangeMaps (setBlock)
attribute [local go_sem ↓] Go.wp_at_zero Go.wp_at_succ

/-- Only cells of block L have been set. -/
structure SetsAt (w w' : World) (L : Nat) : Prop where
  blk : ∀ k, k ≠ L → w'.heap[k]? = w.heap[k]?
  size : w'.heap.size = w.heap.size
  os : w'.os = w.os
  tape : w'.tape = w.tape
  output : w'.output = w.output
theorem SetsAt.refl (w : World) (L : Nat) : SetsAt w w L := ⟨fun _ _ => rfl, rfl, rfl, rfl, rfl⟩
theorem SetsAt.set {w w' : World} {L : Nat} (h : SetsAt w w' L) (i : Nat) (v : Value) : SetsAt w (w'.setCell ⟨L, i, none⟩ v) L :=
  ⟨fun k hk => (Below.heap_setCell _ _ _ _ hk).trans (h.blk k hk), by simp [h.size], h.os, h.tape, h.output⟩

set_option maxRecDepth 20000 in
set_option maxHeartbeats 4000000 in
theorem apply_k7 (w : World) (H hm : Nat) (Ls : List PLed) (p : Nat → Nat) (G : Nat → Nat → Prop) (N : Nat) (e : PEv) (vt vn vm vb : Value) (h : HubAt w 9 H hm Ls p G) (hok : AllOk Ls N) (hN : N < 4096) (he : e.Ok) (hkd : e.kind = 7) :
    Calls Tryf.prog 34 #[.pointer (some ⟨H, 0, none⟩), .agg (evC e vt vn vm), .agg (recC vb e)] w (ApplyPost w H hm Ls G e) := by
  have HKD : Hid _ := hkd
  have HNN : Hid (N < 4096) := hN
  clear hkd
  obtain ⟨W, hW⟩ : ∃ W, W = (w.alloc (.cells (evC e vt vn vm) 97)).alloc (.cells (recC vb e) 100) := ⟨_, rfl⟩
  have hWb : Below w.heap.size w W := by rw [hW]; exact ((Below.refl _ _).alloc (Nat.le_refl _) _).alloc (by simp) _
  have hWz : W.heap.size = w.heap.size + 2 := by rw [hW]; simp
  have hEW : Blk W w.heap.size (evC e vt vn vm) 97 := by rw [hW]; exact (Blk.new _ _ _).alloc _
  have hRW : Blk W (w.heap.size + 1) (recC vb e) 100 := by
    have := Blk.new (w.alloc (.cells (evC e vt vn vm) 97)) (recC vb e) 100
    rw [hW]
    simpa using this
  have e2 : W.cell? ⟨w.heap.size, 2, none⟩ = some (.int .u64 (nsOf e.at_)) := hEW.cell 2
  have e3 : W.cell? ⟨w.heap.size, 3, none⟩ = some (.int .i64 (scOf e.at_)) := hEW.cell 3
  have e4 : W.cell? ⟨w.heap.size, 4, none⟩ = some (.pointer none) := hEW.cell 4
  have hrnd := round_any (nsOf e.at_) (scOf e.at_) W (nsOf_pos _) (nsOf_lt _)
  have HW : Hid (W = (w.alloc (.cells (evC e vt vn vm) 97)).alloc (.cells (recC vb e) 100)) := hW
  have HWB : Hid (Below w.heap.size w W) := hWb
  have HWZ : Hid (W.heap.size = w.heap.size + 2) := hWz
  have HEW : Hid (Blk W w.heap.size (evC e vt vn vm) 97) := hEW
  have HRW : Hid (Blk W (w.heap.size + 1) (recC vb e) 100) := hRW
  have HH : Hid (HubAt w 9 H hm Ls p G) := h
  have HOK : Hid (AllOk Ls N) := hok
  have HE : Hid e.Ok := he
  unfold tm at hrnd
  clear hW hWb hWz hEW hRW h hok he
  unfold evC recC at HW ⊢
  go_enter Tryf.func34, Tryf.ntmps34
  go_upto_region 1 with fail
  rw [← HW.out]
  clear HW
  go_cut [] from 8 to 11 (fun wx => Below w.heap.size w wx ∧ Blk wx w.heap.size (evC e vt vn vm) 97 ∧ Blk wx (w.heap.size + 1) (recC vb e) 100)
  case first =>
    go_wp2_with fail
    refine hrnd.mono ?_
    rintro e1 w1 ⟨rfl, hb1⟩
    have hE1 := HEW.out.below hb1 (by rw [HWZ.out]; omega)
    have hR1 := HRW.out.below hb1 (by rw [HWZ.out]; omega)
    have g2 : w1.cell? ⟨w.heap.size, 2, none⟩ = some (.int .u64 (nsOf e.at_)) := hE1.cell 2
    have g3 : w1.cell? ⟨w.heap.size, 3, none⟩ = some (.int .i64 (scOf e.at_)) := hE1.cell 3
    have g4 : w1.cell? ⟨w.heap.size, 4, none⟩ = some (.pointer none) := hE1.cell 4
    have f2 := hE1.frozen 2
    have f3 := hE1.frozen 3
    have f4 := hE1.frozen 4
    have HE1 : Hid _ := hE1
    have HR1 : Hid _ := hR1
    have HB1 : Hid _ := hb1
    clear hE1 hR1 hb1 hrnd e2 e3 e4
    unfold tm
    go_wp2
    go_meet
    refine ⟨?_, ?_, ?_⟩
    · have hb0 : Below w.heap.size w w1 := HWB.out.trans (HB1.out.mono (by rw [HWZ.out]; omega))
      refine ⟨hb0.os, hb0.tape, hb0.output, by simpa using hb0.size, fun k hk => ?_⟩
      rw [Below.heap_setCell _ _ _ _ (by show k ≠ w.heap.size; omega), Below.heap_setCell _ _ _ _ (by show k ≠ w.heap.size; omega), Below.heap_setCell _ _ _ _ (by show k ≠ w.heap.size; omega)]
      exact hb0.block k hk
    · exact ((Blk.set HE1.out 2 _).set 3 _).set 4 _
    · exact ((Blk.other HR1.out (by show w.heap.size + 1 ≠ w.heap.size; omega) _).other (by show w.heap.size + 1 ≠ w.heap.size; omega) _).other (by show w.heap.size + 1 ≠ w.heap.size; omega) _
  case rest =>
  rename World => wx
  obtain ⟨hbx, hEx, hRx⟩ := hcut
  clear HWB HWZ HEW HRW hrnd e2 e3 e4
  have o1 : wx.cell? ⟨w.heap.size, 1, none⟩ = some (.string e.oly) := hEx.cell 1
  have hof := ledgerOf_any wx H hm Ls p G e.oly (HH.out.below hbx) HOK.out.2.1 HE.out.oly
  have HBX : Hid _ := hbx
  have HEX : Hid _ := hEx
  have HRX : Hid _ := hRx
  have hEl := hEx.lt
  have hRl := hRx.lt
  clear hbx hEx hRx
  go_wp2_with fail
  refine hof.mono ?_
  rintro e1 wa ⟨p', G', rfl, hub1, hfr1⟩
  clear hof o1
  obtain ⟨i, hi⟩ : ∃ i, i = placeOf Ls e.oly := ⟨_, rfl⟩
  obtain ⟨L, hL⟩ : ∃ L, L = p' i := ⟨_, rfl⟩
  obtain ⟨m, hm'⟩ : ∃ m, m = ledAt (withL Ls e.oly) i := ⟨_, rfl⟩
  have hiL : i < (withL Ls e.oly).length := by rw [hi]; exact placeOf_lt _ _
  have hnf : ∀ b, w.heap.size ≤ b → ¬ hfoot H hm Ls.length G b := fun b hb hf => by
    have := HH.out.lt hf
    omega
  have hmok : m.Ok N := by rw [hm']; exact HOK.out.withL HE.out.oly _ (ledAt_mem hiL)
  have hmid : AppMid w H hm Ls G e vt vn vm vb L i m p' G' wa :=
    { hub := hub1, fr := (Framed.ofBelow HBX.out (Nat.le_refl _)).trans hfr1, hi := hiL, hL := hL, hm := hm', led := by rw [hL, hm']; exact hub1.led i hiL
      st := by rw [hm', hi]; rfl
      rf := by rw [hm', hi]; rfl
      blkE := (hfr1.block _ hEl (hnf _ (Nat.le_refl _))).trans HEX.out
      blkR := (hfr1.block _ hRl (hnf _ (by omega))).trans HRX.out
      nE := fun hg => by
        rcases hfr1.inside w.heap.size (Or.inr (Or.inr ⟨i, hiL, hg⟩)) with h1 | h1
        · exact hnf _ (Nat.le_refl _) h1
        · omega
      nR := fun hg => by
        rcases hfr1.inside (w.heap.size + 1) (Or.inr (Or.inr ⟨i, hiL, hg⟩)) with h1 | h1
        · exact hnf _ (by omega) h1
        · omega }
  have HMID : Hid (AppMid w H hm Ls G e vt vn vm vb L i m p' G' wa) := hmid
  have HMOK : Hid (m.Ok N) := hmok
  have k0 : wa.cell? ⟨w.heap.size, 0, none⟩ = some (.int .i64 e.kind) := hmid.blkE.cell 0
  rw [← hi, ← hL]
  have hszw : wx.heap.size ≤ wa.heap.size := hfr1.size
  clear hub1 hfr1 hi hL hm' hiL hnf hmok hmid HBX HEX HRX hEl hRl
  rw [HKD.out] at k0
  obtain ⟨x, hx⟩ := HMID.out.led
  have HX : Hid _ := hx
  clear hx
  go_wp2_with fail
  refine (newRun_any _).mono ?_
  rintro e2 wb ⟨sm, rfl, h1, h2, h3⟩
  have hLb := HX.out.led.below h3 HX.out.led.lt
  obtain ⟨sa, sc, hvs⟩ := owns_form HX.out.subs
  obtain ⟨qa, qc, hvq⟩ := owns_form HX.out.queue
  obtain ⟨ra, rc, hvr⟩ := owns_form HX.out.recs
  have l2 : wb.cell? ⟨L, 2, none⟩ = some (.int .u64 (nsOf m.st)) := hLb.cell 2
  have f2 := hLb.frozen 2
  have l3 : wb.cell? ⟨L, 3, none⟩ = some (.int .i64 (scOf m.st)) := hLb.cell 3
  have f3 := hLb.frozen 3
  have l4 : wb.cell? ⟨L, 4, none⟩ = some (.pointer none) := hLb.cell 4
  have f4 := hLb.frozen 4
  have l5 : wb.cell? ⟨L, 5, none⟩ = some (.int .u64 (nsOf m.en)) := hLb.cell 5
  have f5 := hLb.frozen 5
  have l6 : wb.cell? ⟨L, 6, none⟩ = some (.int .i64 (scOf m.en)) := hLb.cell 6
  have f6 := hLb.frozen 6
  have l7 : wb.cell? ⟨L, 7, none⟩ = some (.pointer none) := hLb.cell 7
  have f7 := hLb.frozen 7
  have l8 : wb.cell? ⟨L, 8, none⟩ = some (.int .i64 m.fz) := hLb.cell 8
  have f8 := hLb.frozen 8
  have l9 : wb.cell? ⟨L, 9, none⟩ = some (.bool m.fzs) := hLb.cell 9
  have f9 := hLb.frozen 9
  have l10 : wb.cell? ⟨L, 10, none⟩ = some (.slice sa m.subs.length sc) := by rw [← hvs]; exact hLb.cell 10
  have f10 := hLb.frozen 10
  have l11 : wb.cell? ⟨L, 11, none⟩ = some (.map (some x.sm)) := hLb.cell 11
  have f11 := hLb.frozen 11
  have l12 : wb.cell? ⟨L, 12, none⟩ = some (.slice qa m.queue.length qc) := by rw [← hvq]; exact hLb.cell 12
  have f12 := hLb.frozen 12
  have l13 : wb.cell? ⟨L, 13, none⟩ = some (.slice ra m.recs.length rc) := by rw [← hvr]; exact hLb.cell 13
  have f13 := hLb.frozen 13
  have l14 : wb.cell? ⟨L, 14, none⟩ = some (.bool m.fro) := hLb.cell 14
  have f14 := hLb.frozen 14
  have l15 : wb.cell? ⟨L, 15, none⟩ = some (.int .i64 m.shown) := hLb.cell 15
  have f15 := hLb.frozen 15
  have b2 : Blk (wb.setCell ⟨L, 2, none⟩ (.int .u64 0)) L #[.string m.name, .map (some x.dm), .int .u64 0, .int .i64 (scOf m.st), .pointer none, .int .u64 (nsOf m.en), .int .i64 (scOf m.en), .pointer none, .int .i64 m.fz, .bool m.fzs, x.vs, .map (some x.sm), x.vq, x.vr, .bool m.fro, .int .i64 m.shown] 108 := Blk.set hLb 2 _
  have b3 : Blk ((wb.setCell ⟨L, 2, none⟩ (.int .u64 0)).setCell ⟨L, 3, none⟩ (.int .i64 0)) L #[.string m.name, .map (some x.dm), .int .u64 0, .int .i64 0, .pointer none, .int .u64 (nsOf m.en), .int .i64 (scOf m.en), .pointer none, .int .i64 m.fz, .bool m.fzs, x.vs, .map (some x.sm), x.vq, x.vr, .bool m.fro, .int .i64 m.shown] 108 := Blk.set b2 3 _
  have b4 : Blk (((wb.setCell ⟨L, 2, none⟩ (.int .u64 0)).setCell ⟨L, 3, none⟩ (.int .i64 0)).setCell ⟨L, 4, none⟩ (.pointer none)) L #[.string m.name, .map (some x.dm), .int .u64 0, .int .i64 0, .pointer none, .int .u64 (nsOf m.en), .int .i64 (scOf m.en), .pointer none, .int .i64 m.fz, .bool m.fzs, x.vs, .map (some x.sm), x.vq, x.vr, .bool m.fro, .int .i64 m.shown] 108 := Blk.set b3 4 _
  have b5 : Blk ((((wb.setCell ⟨L, 2, none⟩ (.int .u64 0)).setCell ⟨L, 3, none⟩ (.int .i64 0)).setCell ⟨L, 4, none⟩ (.pointer none)).setCell ⟨L, 5, none⟩ (.int .u64 0)) L #[.string m.name, .map (some x.dm), .int .u64 0, .int .i64 0, .pointer none, .int .u64 0, .int .i64 (scOf m.en), .pointer none, .int .i64 m.fz, .bool m.fzs, x.vs, .map (some x.sm), x.vq, x.vr, .bool m.fro, .int .i64 m.shown] 108 := Blk.set b4 5 _
  have b6 : Blk (((((wb.setCell ⟨L, 2, none⟩ (.int .u64 0)).setCell ⟨L, 3, none⟩ (.int .i64 0)).setCell ⟨L, 4, none⟩ (.pointer none)).setCell ⟨L, 5, none⟩ (.int .u64 0)).setCell ⟨L, 6, none⟩ (.int .i64 0)) L #[.string m.name, .map (some x.dm), .int .u64 0, .int .i64 0, .pointer none, .int .u64 0, .int .i64 0, .pointer none, .int .i64 m.fz, .bool m.fzs, x.vs, .map (some x.sm), x.vq, x.vr, .bool m.fro, .int .i64 m.shown] 108 := Blk.set b5 6 _
  have b7 : Blk ((((((wb.setCell ⟨L, 2, none⟩ (.int .u64 0)).setCell ⟨L, 3, none⟩ (.int .i64 0)).setCell ⟨L, 4, none⟩ (.pointer none)).setCell ⟨L, 5, none⟩ (.int .u64 0)).setCell ⟨L, 6, none⟩ (.int .i64 0)).setCell ⟨L, 7, none⟩ (.pointer none)) L #[.string m.name, .map (some x.dm), .int .u64 0, .int .i64 0, .pointer none, .int .u64 0, .int .i64 0, .pointer none, .int .i64 m.fz, .bool m.fzs, x.vs, .map (some x.sm), x.vq, x.vr, .bool m.fro, .int .i64 m.shown] 108 := Blk.set b6 7 _
  have b8 : Blk (((((((wb.setCell ⟨L, 2, none⟩ (.int .u64 0)).setCell ⟨L, 3, none⟩ (.int .i64 0)).setCell ⟨L, 4, none⟩ (.pointer none)).setCell ⟨L, 5, none⟩ (.int .u64 0)).setCell ⟨L, 6, none⟩ (.int .i64 0)).setCell ⟨L, 7, none⟩ (.pointer none)).setCell ⟨L, 8, none⟩ (.int .i64 0)) L #[.string m.name, .map (some x.dm), .int .u64 0, .int .i64 0, .pointer none, .int .u64 0, .int .i64 0, .pointer none, .int .i64 0, .bool m.fzs, x.vs, .map (some x.sm), x.vq, x.vr, .bool m.fro, .int .i64 m.shown] 108 := Blk.set b7 8 _
  have b9 : Blk ((((((((wb.setCell ⟨L, 2, none⟩ (.int .u64 0)).setCell ⟨L, 3, none⟩ (.int .i64 0)).setCell ⟨L, 4, none⟩ (.pointer none)).setCell ⟨L, 5, none⟩ (.int .u64 0)).setCell ⟨L, 6, none⟩ (.int .i64 0)).setCell ⟨L, 7, none⟩ (.pointer none)).setCell ⟨L, 8, none⟩ (.int .i64 0)).setCell ⟨L, 9, none⟩ (.bool false)) L #[.string m.name, .map (some x.dm), .int .u64 0, .int .i64 0, .pointer none, .int .u64 0, .int .i64 0, .pointer none, .int .i64 0, .bool false, x.vs, .map (some x.sm), x.vq, x.vr, .bool m.fro, .int .i64 m.shown] 108 := Blk.set b8 9 _
  have b10 : Blk (((((((((wb.setCell ⟨L, 2, none⟩ (.int .u64 0)).setCell ⟨L, 3, none⟩ (.int .i64 0)).setCell ⟨L, 4, none⟩ (.pointer none)).setCell ⟨L, 5, none⟩ (.int .u64 0)).setCell ⟨L, 6, none⟩ (.int .i64 0)).setCell ⟨L, 7, none⟩ (.pointer none)).setCell ⟨L, 8, none⟩ (.int .i64 0)).setCell ⟨L, 9, none⟩ (.bool false)).setCell ⟨L, 10, none⟩ (.slice none 0 0)) L #[.string m.name, .map (some x.dm), .int .u64 0, .int .i64 0, .pointer none, .int .u64 0, .int .i64 0, .pointer none, .int .i64 0, .bool false, .slice none 0 0, .map (some x.sm), x.vq, x.vr, .bool m.fro, .int .i64 m.shown] 108 := Blk.set b9 10 _
  have b11 : Blk ((((((((((wb.setCell ⟨L, 2, none⟩ (.int .u64 0)).setCell ⟨L, 3, none⟩ (.int .i64 0)).setCell ⟨L, 4, none⟩ (.pointer none)).setCell ⟨L, 5, none⟩ (.int .u64 0)).setCell ⟨L, 6, none⟩ (.int .i64 0)).setCell ⟨L, 7, none⟩ (.pointer none)).setCell ⟨L, 8, none⟩ (.int .i64 0)).setCell ⟨L, 9, none⟩ (.bool false)).setCell ⟨L, 10, none⟩ (.slice none 0 0)).setCell ⟨L, 11, none⟩ (.map (some sm))) L #[.string m.name, .map (some x.dm), .int .u64 0, .int .i64 0, .pointer none, .int .u64 0, .int .i64 0, .pointer none, .int .i64 0, .bool false, .slice none 0 0, .map (some sm), x.vq, x.vr, .bool m.fro, .int .i64 m.shown] 108 := Blk.set b10 11 _
  have b12 : Blk (((((((((((wb.setCell ⟨L, 2, none⟩ (.int .u64 0)).setCell ⟨L, 3, none⟩ (.int .i64 0)).setCell ⟨L, 4, none⟩ (.pointer none)).setCell ⟨L, 5, none⟩ (.int .u64 0)).setCell ⟨L, 6, none⟩ (.int .i64 0)).setCell ⟨L, 7, none⟩ (.pointer none)).setCell ⟨L, 8, none⟩ (.int .i64 0)).setCell ⟨L, 9, none⟩ (.bool false)).setCell ⟨L, 10, none⟩ (.slice none 0 0)).setCell ⟨L, 11, none⟩ (.map (some sm))).setCell ⟨L, 12, none⟩ (.slice none 0 0)) L #[.string m.name, .map (some x.dm), .int .u64 0, .int .i64 0, .pointer none, .int .u64 0, .int .i64 0, .pointer none, .int .i64 0, .bool false, .slice none 0 0, .map (some sm), .slice none 0 0, x.vr, .bool m.fro, .int .i64 m.shown] 108 := Blk.set b11 12 _
  have b13 : Blk ((((((((((((wb.setCell ⟨L, 2, none⟩ (.int .u64 0)).setCell ⟨L, 3, none⟩ (.int .i64 0)).setCell ⟨L, 4, none⟩ (.pointer none)).setCell ⟨L, 5, none⟩ (.int .u64 0)).setCell ⟨L, 6, none⟩ (.int .i64 0)).setCell ⟨L, 7, none⟩ (.pointer none)).setCell ⟨L, 8, none⟩ (.int .i64 0)).setCell ⟨L, 9, none⟩ (.bool false)).setCell ⟨L, 10, none⟩ (.slice none 0 0)).setCell ⟨L, 11, none⟩ (.map (some sm))).setCell ⟨L, 12, none⟩ (.slice none 0 0)).setCell ⟨L, 13, none⟩ (.slice none 0 0)) L #[.string m.name, .map (some x.dm), .int .u64 0, .int .i64 0, .pointer none, .int .u64 0, .int .i64 0, .pointer none, .int .i64 0, .bool false, .slice none 0 0, .map (some sm), .slice none 0 0, .slice none 0 0, .bool m.fro, .int .i64 m.shown] 108 := Blk.set b12 13 _
  have b14 : Blk (((((((((((((wb.setCell ⟨L, 2, none⟩ (.int .u64 0)).setCell ⟨L, 3, none⟩ (.int .i64 0)).setCell ⟨L, 4, none⟩ (.pointer none)).setCell ⟨L, 5, none⟩ (.int .u64 0)).setCell ⟨L, 6, none⟩ (.int .i64 0)).setCell ⟨L, 7, none⟩ (.pointer none)).setCell ⟨L, 8, none⟩ (.int .i64 0)).setCell ⟨L, 9, none⟩ (.bool false)).setCell ⟨L, 10, none⟩ (.slice none 0 0)).setCell ⟨L, 11, none⟩ (.map (some sm))).setCell ⟨L, 12, none⟩ (.slice none 0 0)).setCell ⟨L, 13, none⟩ (.slice none 0 0)).setCell ⟨L, 14, none⟩ (.bool true)) L #[.string m.name, .map (some x.dm), .int .u64 0, .int .i64 0, .pointer none, .int .u64 0, .int .i64 0, .pointer none, .int .i64 0, .bool false, .slice none 0 0, .map (some sm), .slice none 0 0, .slice none 0 0, .bool true, .int .i64 m.shown] 108 := Blk.set b13 14 _
  have b15 : Blk ((((((((((((((wb.setCell ⟨L, 2, none⟩ (.int .u64 0)).setCell ⟨L, 3, none⟩ (.int .i64 0)).setCell ⟨L, 4, none⟩ (.pointer none)).setCell ⟨L, 5, none⟩ (.int .u64 0)).setCell ⟨L, 6, none⟩ (.int .i64 0)).setCell ⟨L, 7, none⟩ (.pointer none)).setCell ⟨L, 8, none⟩ (.int .i64 0)).setCell ⟨L, 9, none⟩ (.bool false)).setCell ⟨L, 10, none⟩ (.slice none 0 0)).setCell ⟨L, 11, none⟩ (.map (some sm))).setCell ⟨L, 12, none⟩ (.slice none 0 0)).setCell ⟨L, 13, none⟩ (.slice none 0 0)).setCell ⟨L, 14, none⟩ (.bool true)).setCell ⟨L, 15, none⟩ (.int .i64 0)) L #[.string m.name, .map (some x.dm), .int .u64 0, .int .i64 0, .pointer none, .int .u64 0, .int .i64 0, .pointer none, .int .i64 0, .bool false, .slice none 0 0, .map (some sm), .slice none 0 0, .slice none 0 0, .bool true, .int .i64 0] 108 := Blk.set b14 15 _
  have hss : SetsAt wb ((((((((((((((wb.setCell ⟨L, 2, none⟩ (.int .u64 0)).setCell ⟨L, 3, none⟩ (.int .i64 0)).setCell ⟨L, 4, none⟩ (.pointer none)).setCell ⟨L, 5, none⟩ (.int .u64 0)).setCell ⟨L, 6, none⟩ (.int .i64 0)).setCell ⟨L, 7, none⟩ (.pointer none)).setCell ⟨L, 8, none⟩ (.int .i64 0)).setCell ⟨L, 9, none⟩ (.bool false)).setCell ⟨L, 10, none⟩ (.slice none 0 0)).setCell ⟨L, 11, none⟩ (.map (some sm))).setCell ⟨L, 12, none⟩ (.slice none 0 0)).setCell ⟨L, 13, none⟩ (.slice none 0 0)).setCell ⟨L, 14, none⟩ (.bool true)).setCell ⟨L, 15, none⟩ (.int .i64 0)) L := ((((((((((((((SetsAt.refl wb L).set 2 _).set 3 _).set 4 _).set 5 _).set 6 _).set 7 _).set 8 _).set 9 _).set 10 _).set 11 _).set 12 _).set 13 _).set 14 _).set 15 _
  have FIN := LedAt.rerun HX.out h3 h1 h2 (w' := ((((((((((((((wb.setCell ⟨L, 2, none⟩ (.int .u64 0)).setCell ⟨L, 3, none⟩ (.int .i64 0)).setCell ⟨L, 4, none⟩ (.pointer none)).setCell ⟨L, 5, none⟩ (.int .u64 0)).setCell ⟨L, 6, none⟩ (.int .i64 0)).setCell ⟨L, 7, none⟩ (.pointer none)).setCell ⟨L, 8, none⟩ (.int .i64 0)).setCell ⟨L, 9, none⟩ (.bool false)).setCell ⟨L, 10, none⟩ (.slice none 0 0)).setCell ⟨L, 11, none⟩ (.map (some sm))).setCell ⟨L, 12, none⟩ (.slice none 0 0)).setCell ⟨L, 13, none⟩ (.slice none 0 0)).setCell ⟨L, 14, none⟩ (.bool true)).setCell ⟨L, 15, none⟩ (.int .i64 0))) b15 hss.blk hss.size ⟨hss.os, hss.tape, hss.output⟩
  have HF : Hid _ := FIN
  clear FIN h1 h2 h3 hLb hss hvs hvq hvr b2 b3 b4 b5 b6 b7 b8 b9 b10 b11 b12 b13 b14 b15
  go_wp2
  go_ret
  obtain ⟨F', g1, g2⟩ := HF.out
  have hst : m.step e = { PLed.fresh m.name with disq := m.disq } := by unfold PLed.step; simp [HKD.out]
  exact HMID.out.fin (by rw [hst]; exact g1) g2 (by rw [refB_not' (by rw [HKD.out]; decide)]; rfl)
end Go.Proofs.Qxb6616853aFmt
