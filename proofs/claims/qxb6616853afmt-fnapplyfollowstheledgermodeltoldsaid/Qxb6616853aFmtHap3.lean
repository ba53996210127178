import Derived.Test.Qxb6616853aFmtHap2
namespace Go.Proofs.Qxb6616853aFmt
open Go.RowKit Go.Extern.Stop Go.Stop Go.Extern
open Go.ChangeMaps (setBlock)
attribute [local go_sem ↓] Go.wp_at_zero Go.wp_at_succ

set_option maxRecDepth 20000 in
set_option maxHeartbeats 4000000 in
theorem apply_k2 (w : World) (H hm : Nat) (Ls : List PLed) (p : Nat → Nat) (G : Nat → Nat → Prop) (N : Nat) (e : PEv) (vt vn vm vb : Value) (h : HubAt w 9 H hm Ls p G) (hok : AllOk Ls N) (hN : N < 4096) (he : e.Ok) (hbt : IsBytes w vt e.tid ∧ ∀ b, hfoot H hm Ls.length G b → ∀ a l c, l ≠ 0 → vt ≠ .slice (some ⟨b, a, none⟩) l c) (hfn : ∃ a l c, vn = .slice a l c) (hfm : ∃ a l c, vm = .slice a l c) (hfb : ∃ a l c, vb = .slice a l c) (hkd : e.kind = 2) :
    Calls Tryf.prog 34 #[.pointer (some ⟨H, 0, none⟩), .agg (evC e vt vn vm), .agg (recC vb e)] w (ApplyPost w H hm Ls G e) := by
  obtain ⟨ta, tl, tc, rfl⟩ := hbt.1.form
  obtain ⟨na, nl, nc, rfl⟩ := hfn
  obtain ⟨ma, ml, mc, rfl⟩ := hfm
  obtain ⟨ba, bl, bc, rfl⟩ := hfb
  have HBT : Hid _ := hbt
  clear hbt
  have HKD : Hid _ := hkd
  have HNN : Hid (N < 4096) := hN
  clear hkd
  obtain ⟨W, hW⟩ : ∃ W, W = (w.alloc (.cells (evC e (.slice ta tl tc) (.slice na nl nc) (.slice ma ml mc)) 97)).alloc (.cells (recC (.slice ba bl bc) e) 100) := ⟨_, rfl⟩
  have hWb : Below w.heap.size w W := by rw [hW]; exact ((Below.refl _ _).alloc (Nat.le_refl _) _).alloc (by simp) _
  have hWz : W.heap.size = w.heap.size + 2 := by rw [hW]; simp
  have hEW : Blk W w.heap.size (evC e (.slice ta tl tc) (.slice na nl nc) (.slice ma ml mc)) 97 := by rw [hW]; exact (Blk.new _ _ _).alloc _
  have hRW : Blk W (w.heap.size + 1) (recC (.slice ba bl bc) e) 100 := by
    have := Blk.new (w.alloc (.cells (evC e (.slice ta tl tc) (.slice na nl nc) (.slice ma ml mc)) 97)) (recC (.slice ba bl bc) e) 100
    rw [hW]
    simpa using this
  have e2 : W.cell? ⟨w.heap.size, 2, none⟩ = some (.int .u64 (nsOf e.at_)) := hEW.cell 2
  have e3 : W.cell? ⟨w.heap.size, 3, none⟩ = some (.int .i64 (scOf e.at_)) := hEW.cell 3
  have e4 : W.cell? ⟨w.heap.size, 4, none⟩ = some (.pointer none) := hEW.cell 4
  have hrnd := round_any (nsOf e.at_) (scOf e.at_) W (nsOf_pos _) (nsOf_lt _)
  have HW : Hid (W = (w.alloc (.cells (evC e (.slice ta tl tc) (.slice na nl nc) (.slice ma ml mc)) 97)).alloc (.cells (recC (.slice ba bl bc) e) 100)) := hW
  have HWB : Hid (Below w.heap.size w W) := hWb
  have HWZ : Hid (W.heap.size = w.heap.size + 2) := hWz
  have HEW : Hid (Blk W w.heap.size (evC e (.slice ta tl tc) (.slice na nl nc) (.slice ma ml mc)) 97) := hEW
  have HRW : Hid (Blk W (w.heap.size + 1) (recC (.slice ba bl bc) e) 100) := hRW
  have HH : Hid (HubAt w 9 H hm Ls p G) := h
  have HOK : Hid (AllOk Ls N) := hok
  have HE : Hid e.Ok := he
  unfold tm at hrnd
  clear hW hWb hWz hEW hRW h hok he
  unfold evC recC at HW ⊢
  go_enter Tryf.func34, Tryf.ntmps34
  go_upto_region 1 with fail
  rw [← HW.out]
  clear HW
  go_cut [] from 8 to 11 (fun wx => Below w.heap.size w wx ∧ Blk wx w.heap.size (evC e (.slice ta tl tc) (.slice na nl nc) (.slice ma ml mc)) 97 ∧ Blk wx (w.heap.size + 1) (recC (.slice ba bl bc) e) 100)
  case first =>
    go_wp2_with fail
    refine hrnd.mono ?_
    rintro e1 w1 ⟨rfl, hb1⟩
    have hE1 := HEW.out.below hb1 (by rw [HWZ.out]; omega)
    have hR1 := HRW.out.below hb1 (by rw [HWZ.out]; omega)
    have g2 : w1.cell? ⟨w.heap.size, 2, none⟩ = some (.int .u64 (nsOf e.at_)) := hE1.cell 2
    have g3 : w1.cell? ⟨w.heap.size, 3, none⟩ = some (.int .i64 (scOf e.at_)) := hE1.cell 3
    have g4 : w1.cell? ⟨w.heap.size, 4, none⟩ = some (.pointer none) := hE1.cell 4
    have f2 := hE1.frozen 2
    have f3 := hE1.frozen 3
    have f4 := hE1.frozen 4
    have HE1 : Hid _ := hE1
    have HR1 : Hid _ := hR1
    have HB1 : Hid _ := hb1
    clear hE1 hR1 hb1 hrnd e2 e3 e4
    unfold tm
    go_wp2
    go_meet
    refine ⟨?_, ?_, ?_⟩
    · have hb0 : Below w.heap.size w w1 := HWB.out.trans (HB1.out.mono (by rw [HWZ.out]; omega))
      refine ⟨hb0.os, hb0.tape, hb0.output, by simpa using hb0.size, fun k hk => ?_⟩
      rw [Below.heap_setCell _ _ _ _ (by show k ≠ w.heap.size; omega), Below.heap_setCell _ _ _ _ (by show k ≠ w.heap.size; omega), Below.heap_setCell _ _ _ _ (by show k ≠ w.heap.size; omega)]
      exact hb0.block k hk
    · exact ((Blk.set HE1.out 2 _).set 3 _).set 4 _
    · exact ((Blk.other HR1.out (by show w.heap.size + 1 ≠ w.heap.size; omega) _).other (by show w.heap.size + 1 ≠ w.heap.size; omega) _).other (by show w.heap.size + 1 ≠ w.heap.size; omega) _
  case rest =>
  rename World => wx
  obtain ⟨hbx, hEx, hRx⟩ := hcut
  clear HWB HWZ HEW HRW hrnd e2 e3 e4
  have o1 : wx.cell? ⟨w.heap.size, 1, none⟩ = some (.string e.oly) := hEx.cell 1
  have hof := ledgerOf_any wx H hm Ls p G e.oly (HH.out.below hbx) HOK.out.2.1 HE.out.oly
  have HBX : Hid _ := hbx
  have HEX : Hid _ := hEx
  have HRX : Hid _ := hRx
  have hEl := hEx.lt
  have hRl := hRx.lt
  clear hbx hEx hRx
  go_wp2_with fail
  refine hof.mono ?_
  rintro e1 wa ⟨p', G', rfl, hub1, hfr1⟩
  clear hof o1
  obtain ⟨i, hi⟩ : ∃ i, i = placeOf Ls e.oly := ⟨_, rfl⟩
  obtain ⟨L, hL⟩ : ∃ L, L = p' i := ⟨_, rfl⟩
  obtain ⟨m, hm'⟩ : ∃ m, m = ledAt (withL Ls e.oly) i := ⟨_, rfl⟩
  have hiL : i < (withL Ls e.oly).length := by rw [hi]; exact placeOf_lt _ _
  have hnf : ∀ b, w.heap.size ≤ b → ¬ hfoot H hm Ls.length G b := fun b hb hf => by
    have := HH.out.lt hf
    omega
  have hmok : m.Ok N := by rw [hm']; exact HOK.out.withL HE.out.oly _ (ledAt_mem hiL)
  have hmid : AppMid w H hm Ls G e (.slice ta tl tc) (.slice na nl nc) (.slice ma ml mc) (.slice ba bl bc) L i m p' G' wa :=
    { hub := hub1, fr := (Framed.ofBelow HBX.out (Nat.le_refl _)).trans hfr1, hi := hiL, hL := hL, hm := hm', led := by rw [hL, hm']; exact hub1.led i hiL
      st := by rw [hm', hi]; rfl
      rf := by rw [hm', hi]; rfl
      blkE := (hfr1.block _ hEl (hnf _ (Nat.le_refl _))).trans HEX.out
      blkR := (hfr1.block _ hRl (hnf _ (by omega))).trans HRX.out
      nE := fun hg => by
        rcases hfr1.inside w.heap.size (Or.inr (Or.inr ⟨i, hiL, hg⟩)) with h1 | h1
        · exact hnf _ (Nat.le_refl _) h1
        · omega
      nR := fun hg => by
        rcases hfr1.inside (w.heap.size + 1) (Or.inr (Or.inr ⟨i, hiL, hg⟩)) with h1 | h1
        · exact hnf _ (by omega) h1
        · omega }
  have HMID : Hid (AppMid w H hm Ls G e (.slice ta tl tc) (.slice na nl nc) (.slice ma ml mc) (.slice ba bl bc) L i m p' G' wa) := hmid
  have HMOK : Hid (m.Ok N) := hmok
  have k0 : wa.cell? ⟨w.heap.size, 0, none⟩ = some (.int .i64 e.kind) := hmid.blkE.cell 0
  rw [← hi, ← hL]
  have hszw : wx.heap.size ≤ wa.heap.size := hfr1.size
  clear hub1 hfr1 hi hL hm' hiL hnf hmok hmid HBX HEX HRX hEl hRl
  rw [HKD.out] at k0
  have a1 : wa.cell? ⟨w.heap.size, 1, none⟩ = some (.string e.oly) := HMID.out.blkE.cell 1
  have a2 : wa.cell? ⟨w.heap.size, 2, none⟩ = some (.int .u64 (nsOf e.at_)) := HMID.out.blkE.cell 2
  have a3 : wa.cell? ⟨w.heap.size, 3, none⟩ = some (.int .i64 (scOf e.at_)) := HMID.out.blkE.cell 3
  have a4 : wa.cell? ⟨w.heap.size, 4, none⟩ = some (.pointer none) := HMID.out.blkE.cell 4
  have a5 : wa.cell? ⟨w.heap.size, 5, none⟩ = some (.string e.team) := HMID.out.blkE.cell 5
  have a6 : wa.cell? ⟨w.heap.size, 6, none⟩ = some (.slice ta tl tc) := HMID.out.blkE.cell 6
  have a7 : wa.cell? ⟨w.heap.size, 7, none⟩ = some (.int .i64 e.task) := HMID.out.blkE.cell 7
  have a8 : wa.cell? ⟨w.heap.size, 8, none⟩ = some (.string e.comp) := HMID.out.blkE.cell 8
  have a9 : wa.cell? ⟨w.heap.size, 9, none⟩ = some (.bool e.force) := HMID.out.blkE.cell 9
  have a10 : wa.cell? ⟨w.heap.size, 10, none⟩ = some (.int .i64 e.sub) := HMID.out.blkE.cell 10
  have a11 : wa.cell? ⟨w.heap.size, 11, none⟩ = some (.int .i64 e.res) := HMID.out.blkE.cell 11
  have a12 : wa.cell? ⟨w.heap.size, 12, none⟩ = some (.slice na nl nc) := HMID.out.blkE.cell 12
  have a13 : wa.cell? ⟨w.heap.size, 13, none⟩ = some (.slice ma ml mc) := HMID.out.blkE.cell 13
  have a14 : wa.cell? ⟨w.heap.size, 14, none⟩ = some (.int .i64 e.left) := HMID.out.blkE.cell 14
  have a15 : wa.cell? ⟨w.heap.size, 15, none⟩ = some (.bool e.frozen) := HMID.out.blkE.cell 15
  have r0 : wa.cell? ⟨w.heap.size + 1, 0, none⟩ = some (.slice ba bl bc) := HMID.out.blkR.cell 0
  have r1 : wa.cell? ⟨w.heap.size + 1, 1, none⟩ = some (.int .i64 e.off) := HMID.out.blkR.cell 1
  have r2 : wa.cell? ⟨w.heap.size + 1, 2, none⟩ = some (.int .i64 e.size) := HMID.out.blkR.cell 2
  have hcall := submit_any wa (G' i) L m N e (.slice ta tl tc) (.slice na nl nc) (.slice ma ml mc) (.slice ba bl bc) HMID.out.led HMOK.out (by have := HNN.out; omega) HE.out (HBTA HBT.out HMID.out)
  unfold evC recC at hcall
  rw [HKD.out] at hcall
  go_wp2_with fail
  refine hcall.mono ?_
  rintro e2 wb ⟨rfl, F', g1, g2⟩
  have HG1 : Hid _ := g1
  have HG2 : Hid _ := g2
  clear g1 g2 hcall
  go_wp2
  go_ret
  have g1 := HG1.out
  have g2 := HG2.out
  have hst : m.step e = m.submit e := by unfold PLed.step; simp [HKD.out]
  exact HMID.out.fin (by rw [hst]; exact g1) g2 (by rw [refB_not' (by rw [HKD.out]; decide)]; rfl)
set_option maxRecDepth 20000 in
set_option maxHeartbeats 4000000 in
theorem apply_k3 (w : World) (H hm : Nat) (Ls : List PLed) (p : Nat → Nat) (G : Nat → Nat → Prop) (N : Nat) (e : PEv) (vt vn vm vb : Value) (h : HubAt w 9 H hm Ls p G) (hok : AllOk Ls N) (hN : N < 4096) (he : e.Ok) (Fi : Interp) (hFi : Fi.answers w.tape) (hft : ∃ a l c, vt = .slice a l c) (hfn : ∃ a l c, vn = .slice a l c) (hfm : ∃ a l c, vm = .slice a l c) (hkd : e.kind = 3) :
    Calls Tryf.prog 34 #[.pointer (some ⟨H, 0, none⟩), .agg (evC e vt vn vm), .agg (recC vb e)] w (ApplyPost w H hm Ls G e) := by
  obtain ⟨ta, tl, tc, rfl⟩ := hft
  obtain ⟨na, nl, nc, rfl⟩ := hfn
  obtain ⟨ma, ml, mc, rfl⟩ := hfm
  have HFI : Hid _ := hFi
  clear hFi
  have HKD : Hid _ := hkd
  have HNN : Hid (N < 4096) := hN
  clear hkd
  obtain ⟨W, hW⟩ : ∃ W, W = (w.alloc (.cells (evC e (.slice ta tl tc) (.slice na nl nc) (.slice ma ml mc)) 97)).alloc (.cells (recC vb e) 100) := ⟨_, rfl⟩
  have hWb : Below w.heap.size w W := by rw [hW]; exact ((Below.refl _ _).alloc (Nat.le_refl _) _).alloc (by simp) _
  have hWz : W.heap.size = w.heap.size + 2 := by rw [hW]; simp
  have hEW : Blk W w.heap.size (evC e (.slice ta tl tc) (.slice na nl nc) (.slice ma ml mc)) 97 := by rw [hW]; exact (Blk.new _ _ _).alloc _
  have hRW : Blk W (w.heap.size + 1) (recC vb e) 100 := by
    have := Blk.new (w.alloc (.cells (evC e (.slice ta tl tc) (.slice na nl nc) (.slice ma ml mc)) 97)) (recC vb e) 100
    rw [hW]
    simpa using this
  have e2 : W.cell? ⟨w.heap.size, 2, none⟩ = some (.int .u64 (nsOf e.at_)) := hEW.cell 2
  have e3 : W.cell? ⟨w.heap.size, 3, none⟩ = some (.int .i64 (scOf e.at_)) := hEW.cell 3
  have e4 : W.cell? ⟨w.heap.size, 4, none⟩ = some (.pointer none) := hEW.cell 4
  have hrnd := round_any (nsOf e.at_) (scOf e.at_) W (nsOf_pos _) (nsOf_lt _)
  have HW : Hid (W = (w.alloc (.cells (evC e (.slice ta tl tc) (.slice na nl nc) (.slice ma ml mc)) 97)).alloc (.cells (recC vb e) 100)) := hW
  have HWB : Hid (Below w.heap.size w W) := hWb
  have HWZ : Hid (W.heap.size = w.heap.size + 2) := hWz
  have HEW : Hid (Blk W w.heap.size (evC e (.slice ta tl tc) (.slice na nl nc) (.slice ma ml mc)) 97) := hEW
  have HRW : Hid (Blk W (w.heap.size + 1) (recC vb e) 100) := hRW
  have HH : Hid (HubAt w 9 H hm Ls p G) := h
  have HOK : Hid (AllOk Ls N) := hok
  have HE : Hid e.Ok := he
  unfold tm at hrnd
  clear hW hWb hWz hEW hRW h hok he
  unfold evC recC at HW ⊢
  go_enter Tryf.func34, Tryf.ntmps34
  go_upto_region 1 with fail
  rw [← HW.out]
  clear HW
  go_cut [] from 8 to 11 (fun wx => Below w.heap.size w wx ∧ Blk wx w.heap.size (evC e (.slice ta tl tc) (.slice na nl nc) (.slice ma ml mc)) 97 ∧ Blk wx (w.heap.size + 1) (recC vb e) 100)
  case first =>
    go_wp2_with fail
    refine hrnd.mono ?_
    rintro e1 w1 ⟨rfl, hb1⟩
    have hE1 := HEW.out.below hb1 (by rw [HWZ.out]; omega)
    have hR1 := HRW.out.below hb1 (by rw [HWZ.out]; omega)
    have g2 : w1.cell? ⟨w.heap.size, 2, none⟩ = some (.int .u64 (nsOf e.at_)) := hE1.cell 2
    have g3 : w1.cell? ⟨w.heap.size, 3, none⟩ = some (.int .i64 (scOf e.at_)) := hE1.cell 3
    have g4 : w1.cell? ⟨w.heap.size, 4, none⟩ = some (.pointer none) := hE1.cell 4
    have f2 := hE1.frozen 2
    have f3 := hE1.frozen 3
    have f4 := hE1.frozen 4
    have HE1 : Hid _ := hE1
    have HR1 : Hid _ := hR1
    have HB1 : Hid _ := hb1
    clear hE1 hR1 hb1 hrnd e2 e3 e4
    unfold tm
    go_wp2
    go_meet
    refine ⟨?_, ?_, ?_⟩
    · have hb0 : Below w.heap.size w w1 := HWB.out.trans (HB1.out.mono (by rw [HWZ.out]; omega))
      refine ⟨hb0.os, hb0.tape, hb0.output, by simpa using hb0.size, fun k hk => ?_⟩
      rw [Below.heap_setCell _ _ _ _ (by show k ≠ w.heap.size; omega), Below.heap_setCell _ _ _ _ (by show k ≠ w.heap.size; omega), Below.heap_setCell _ _ _ _ (by show k ≠ w.heap.size; omega)]
      exact hb0.block k hk
    · exact ((Blk.set HE1.out 2 _).set 3 _).set 4 _
    · exact ((Blk.other HR1.out (by show w.heap.size + 1 ≠ w.heap.size; omega) _).other (by show w.heap.size + 1 ≠ w.heap.size; omega) _).other (by show w.heap.size + 1 ≠ w.heap.size; omega) _
  case rest =>
  rename World => wx
  obtain ⟨hbx, hEx, hRx⟩ := hcut
  clear HWB HWZ HEW HRW hrnd e2 e3 e4
  have o1 : wx.cell? ⟨w.heap.size, 1, none⟩ = some (.string e.oly) := hEx.cell 1
  have hof := ledgerOf_any wx H hm Ls p G e.oly (HH.out.below hbx) HOK.out.2.1 HE.out.oly
  have HBX : Hid _ := hbx
  have HEX : Hid _ := hEx
  have HRX : Hid _ := hRx
  have hEl := hEx.lt
  have hRl := hRx.lt
  clear hbx hEx hRx
  go_wp2_with fail
  refine hof.mono ?_
  rintro e1 wa ⟨p', G', rfl, hub1, hfr1⟩
  clear hof o1
  obtain ⟨i, hi⟩ : ∃ i, i = placeOf Ls e.oly := ⟨_, rfl⟩
  obtain ⟨L, hL⟩ : ∃ L, L = p' i := ⟨_, rfl⟩
  obtain ⟨m, hm'⟩ : ∃ m, m = ledAt (withL Ls e.oly) i := ⟨_, rfl⟩
  have hiL : i < (withL Ls e.oly).length := by rw [hi]; exact placeOf_lt _ _
  have hnf : ∀ b, w.heap.size ≤ b → ¬ hfoot H hm Ls.length G b := fun b hb hf => by
    have := HH.out.lt hf
    omega
  have hmok : m.Ok N := by rw [hm']; exact HOK.out.withL HE.out.oly _ (ledAt_mem hiL)
  have hmid : AppMid w H hm Ls G e (.slice ta tl tc) (.slice na nl nc) (.slice ma ml mc) vb L i m p' G' wa :=
    { hub := hub1, fr := (Framed.ofBelow HBX.out (Nat.le_refl _)).trans hfr1, hi := hiL, hL := hL, hm := hm', led := by rw [hL, hm']; exact hub1.led i hiL
      st := by rw [hm', hi]; rfl
      rf := by rw [hm', hi]; rfl
      blkE := (hfr1.block _ hEl (hnf _ (Nat.le_refl _))).trans HEX.out
      blkR := (hfr1.block _ hRl (hnf _ (by omega))).trans HRX.out
      nE := fun hg => by
        rcases hfr1.inside w.heap.size (Or.inr (Or.inr ⟨i, hiL, hg⟩)) with h1 | h1
        · exact hnf _ (Nat.le_refl _) h1
        · omega
      nR := fun hg => by
        rcases hfr1.inside (w.heap.size + 1) (Or.inr (Or.inr ⟨i, hiL, hg⟩)) with h1 | h1
        · exact hnf _ (by omega) h1
        · omega }
  have HMID : Hid (AppMid w H hm Ls G e (.slice ta tl tc) (.slice na nl nc) (.slice ma ml mc) vb L i m p' G' wa) := hmid
  have HMOK : Hid (m.Ok N) := hmok
  have k0 : wa.cell? ⟨w.heap.size, 0, none⟩ = some (.int .i64 e.kind) := hmid.blkE.cell 0
  rw [← hi, ← hL]
  have hszw : wx.heap.size ≤ wa.heap.size := hfr1.size
  clear hub1 hfr1 hi hL hm' hiL hnf hmok hmid HBX HEX HRX hEl hRl
  rw [HKD.out] at k0
  have a1 : wa.cell? ⟨w.heap.size, 1, none⟩ = some (.string e.oly) := HMID.out.blkE.cell 1
  have a2 : wa.cell? ⟨w.heap.size, 2, none⟩ = some (.int .u64 (nsOf e.at_)) := HMID.out.blkE.cell 2
  have a3 : wa.cell? ⟨w.heap.size, 3, none⟩ = some (.int .i64 (scOf e.at_)) := HMID.out.blkE.cell 3
  have a4 : wa.cell? ⟨w.heap.size, 4, none⟩ = some (.pointer none) := HMID.out.blkE.cell 4
  have a5 : wa.cell? ⟨w.heap.size, 5, none⟩ = some (.string e.team) := HMID.out.blkE.cell 5
  have a6 : wa.cell? ⟨w.heap.size, 6, none⟩ = some (.slice ta tl tc) := HMID.out.blkE.cell 6
  have a7 : wa.cell? ⟨w.heap.size, 7, none⟩ = some (.int .i64 e.task) := HMID.out.blkE.cell 7
  have a8 : wa.cell? ⟨w.heap.size, 8, none⟩ = some (.string e.comp) := HMID.out.blkE.cell 8
  have a9 : wa.cell? ⟨w.heap.size, 9, none⟩ = some (.bool e.force) := HMID.out.blkE.cell 9
  have a10 : wa.cell? ⟨w.heap.size, 10, none⟩ = some (.int .i64 e.sub) := HMID.out.blkE.cell 10
  have a11 : wa.cell? ⟨w.heap.size, 11, none⟩ = some (.int .i64 e.res) := HMID.out.blkE.cell 11
  have a12 : wa.cell? ⟨w.heap.size, 12, none⟩ = some (.slice na nl nc) := HMID.out.blkE.cell 12
  have a13 : wa.cell? ⟨w.heap.size, 13, none⟩ = some (.slice ma ml mc) := HMID.out.blkE.cell 13
  have a14 : wa.cell? ⟨w.heap.size, 14, none⟩ = some (.int .i64 e.left) := HMID.out.blkE.cell 14
  have a15 : wa.cell? ⟨w.heap.size, 15, none⟩ = some (.bool e.frozen) := HMID.out.blkE.cell 15
  cases hrf : m.refuses e
  · obtain ⟨h1, h2, h3, h4⟩ := PLed.refuses_not hrf
    have hcall := judge_ok wa (G' i) L m N e (.slice ta tl tc) (.slice na nl nc) (.slice ma ml mc) (e.sub - 1).toNat HMID.out.led HMOK.out (by have := HNN.out; omega) h3 h4
    unfold evC at hcall
    rw [HKD.out] at hcall
    have HRF : Hid _ := hrf
    clear h1 h2 h3 h4 hrf
    go_wp2_with fail
    refine hcall.mono ?_
    rintro e2 wb ⟨v, F', rfl, hre, g1, g2⟩
    have HG1 : Hid _ := g1
    have HG2 : Hid _ := g2
    have HRE : Hid _ := hre
    clear g1 g2 hcall hre
    go_wp2
    go_ret
    have hst : m.step e = m.judgeAt (e.sub - 1).toNat e.res := by unfold PLed.step PLed.judge; simp [HKD.out, HRF.out]
    have hrb : m.refB e = false := by unfold PLed.refB; rw [HRF.out]; simp
    exact HMID.out.fin (by rw [hst]; exact HG1.out) HG2.out (by rw [hrb]; exact HRE.out)
  · have hcall := judge_refused Fi wa (G' i) L m N e (.slice ta tl tc) (.slice na nl nc) (.slice ma ml mc) (by rw [HMID.out.fr.tape]; exact HFI.out) HMID.out.led HMOK.out (by have := HNN.out; omega) hrf
    unfold evC at hcall
    rw [HKD.out] at hcall
    have HRF : Hid _ := hrf
    clear hrf
    go_wp2_with fail
    refine hcall.mono ?_
    rintro e2 wb ⟨v, F', rfl, hre, g1, g2⟩
    have HG1 : Hid _ := g1
    have HG2 : Hid _ := g2
    have HRE : Hid _ := hre
    clear g1 g2 hcall hre
    go_wp2
    go_ret
    have hst : m.step e = m := by unfold PLed.step PLed.judge; simp [HKD.out, HRF.out]
    have hrb : m.refB e = true := by unfold PLed.refB; rw [HRF.out, HKD.out]; rfl
    exact HMID.out.fin (by rw [hst]; exact HG1.out) HG2.out (by rw [hrb]; exact HRE.out)
end Go.Proofs.Qxb6616853aFmt
