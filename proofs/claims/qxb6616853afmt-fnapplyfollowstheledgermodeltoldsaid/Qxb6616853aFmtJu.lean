import Derived.Test.Qxb6616853aFmtJq
namespace Go.Proofs.Qxb6616853aFmt
open Go.RowKit Go.Extern.Stop Go.Stop Go.Extern
open Go.ChangeMaps (setBlock)
attribute [local go_sem ↓] Go.wp_at_zero Go.wp_at_succ

theorem infoF114 : (Tryf.prog.info? 114).map (fun i => (i.zero, i.size, i.bytes)) = some (some (.agg #[.pointer none, .int .i64 0]), 2, 16) := by kernel_rfl

/-- In the midst of a verdict: the ledger's state, its submissions where they were. -/
def JCut (W : World) (F : Nat → Prop) (L : Nat) (m : PLed) (ps : List Nat) (wx : World) : Prop :=
  ∃ x, LedAt wx F L m x ∧ x.ps = ps ∧ Framed W F wx F

theorem JCut.cell {W wx : World} {F : Nat → Prop} {L : Nat} {m : PLed} {ps : List Nat} (h : JCut W F L m ps wx) {g i : Nat} {v : Value} (hg : g < W.heap.size) (hF : ¬ F g) (hc : W.cell? ⟨g, i, none⟩ = some v) : wx.cell? ⟨g, i, none⟩ = some v := by
  obtain ⟨x, _, _, h3⟩ := h
  exact (World.cell?_of_block (h3.block g hg hF)).trans hc

def queueM (m : PLed) (k : Nat) : PLed := { m with queue := m.queue.filter fun i => i != k }
def solveM (m : PLed) (t : ByteArray) (n : Int) (r : Int) : PLed := { m with solved := if r = 0 then addK m.solved t n else m.solved }

set_option maxHeartbeats 4000000 in
/-- A verdict that counts. -/
theorem judge_ok (w : World) (F : Nat → Prop) (L : Nat) (m : PLed) (N : Nat) (e : PEv) (vt vn vm : Value) (k : Nat) (h : IsLed w F L m) (hm : m.Ok N) (hN : N ≤ 4096) (hk : k < m.subs.length) (hs : e.sub = (k : Int) + 1) :
    Calls Tryf.prog 45 #[.pointer (some ⟨L, 0, none⟩), .agg (evC e vt vn vm)] w (JudgePost w F L (m.judgeAt k e.res) false) := by
  obtain ⟨x, h⟩ := h
  have hT : m.subs.length ≤ 4096 := Nat.le_trans hm.subs hN
  obtain ⟨W, hW⟩ : ∃ W, W = w.alloc (.cells (evC e vt vn vm) 97) := ⟨_, rfl⟩
  have hWb : Below w.heap.size w W := by rw [hW]; exact (Below.refl _ _).alloc (Nat.le_refl _) _
  have hWz : W.heap.size = w.heap.size + 1 := by rw [hW]; simp
  have hEW : Blk W w.heap.size (evC e vt vn vm) 97 := by rw [hW]; exact Blk.new _ _ _
  have hnE : ¬ F w.heap.size := fun hf => absurd (h.below _ hf) (by omega)
  have hWF : Framed w F W F := Framed.ofBelow hWb (Nat.le_refl _)
  have hLW : LedAt W F L m x := h.frame (fun j hj => hWb.block j (h.below j hj)) hWb.size
  clear h
  obtain ⟨dm, sm, es, ck, es2, ck2, vs, vq, vr, ps⟩ := x
  obtain ⟨sa, cs, hvs⟩ := owns_form hLW.subs
  dsimp only at hvs
  subst hvs
  have hkp : k < ps.length := by rw [show ps.length = m.subs.length from hLW.len]; exact hk
  obtain ⟨p, hp⟩ : ∃ p, p = ps.getD k 0 := ⟨_, rfl⟩
  have hsub : F p ∧ Blk W p (subC L k (subAt m.subs k)) 112 := by
    have := hLW.sub k (ps.getD k 0) (ps_get hkp)
    rw [hp]
    exact this
  obtain ⟨n, hn⟩ : ∃ n, n = m.subs.length := ⟨_, rfl⟩
  have c10 : W.cell? ⟨L, 10, none⟩ = some (.slice sa n cs) := by rw [hn]; exact hLW.led.cell 10
  have e10 : W.cell? ⟨w.heap.size, 10, none⟩ = some (.int .i64 e.sub) := hEW.cell 10
  have e11 : W.cell? ⟨w.heap.size, 11, none⟩ = some (.int .i64 e.res) := hEW.cell 11
  obtain ⟨g0, rfl, cg⟩ : ∃ g0, sa = some ⟨g0, 0, none⟩ ∧ W.cell? ⟨g0, k, none⟩ = some (.pointer (some ⟨p, 0, none⟩)) := by
    have hso := hLW.subs
    rcases hLW.subs.2 with ⟨_, hz⟩ | ⟨g, cap, cur, hv, _⟩
    · omega
    · dsimp only at hv
      cases hv
      refine ⟨g, rfl, ?_⟩
      rw [hso.cellAt k (by omega), List.getElem?_map, ps_get hkp, hp]
      rfl
  have hkn : k < n := by omega
  have hge : ¬ e.sub < 1 := by omega
  have hle : ¬ (n : Int) < e.sub := by omega
  have hidx : e.sub - 1 = (k : Int) := by omega
  rw [← hn] at hT
  have hL := hLW.led.lt
  have HLW : Hid (LedAt W F L m ⟨dm, sm, es, ck, es2, ck2, .slice (some ⟨g0, 0, none⟩) m.subs.length cs, vq, vr, ps⟩) := hLW
  have HW : Hid (W = w.alloc (.cells (evC e vt vn vm) 97)) := hW
  have HWF : Hid (Framed w F W F) := hWF
  have HWZ : Hid (W.heap.size = w.heap.size + 1) := hWz
  have HM : Hid (m.Ok N) := hm
  have HP : Hid (p = ps.getD k 0) := hp
  have HSUB : Hid (F p ∧ Blk W p (subC L k (subAt m.subs k)) 112) := hsub
  have HNE : Hid (¬ F w.heap.size) := hnE
  have HEW : Hid (Blk W w.heap.size (evC e vt vn vm) 97) := hEW
  have HKS : Hid (k < m.subs.length) := hk
  have hqd : Calls Tryf.prog 57 #[.pointer (some ⟨L, 0, none⟩), .pointer (some ⟨p, 0, none⟩)] W.drew.drew (QuedPost m.queue k W.drew.drew) := by
    rw [hp]
    exact queued_any W.drew.drew F L m ⟨dm, sm, es, ck, es2, ck2, .slice (some ⟨g0, 0, none⟩) m.subs.length cs, vq, vr, ps⟩ N k (hLW.frame (fun _ _ => rfl) (Nat.le_refl _)) hm hN hk
  clear hLW hEW hW hWb hWF hWz hm hp hsub hnE hn hk hkp hs
  unfold evC at HW ⊢
  go_enter Tryf.func45, Tryf.ntmps45
  go_upto_region 1 with fail
  rw [← HW.out]
  clear HW
  go_region
  go_upto_region 3 with fail
  go_region
  go_wp2_with fail
  refine hqd.mono ?_
  rintro e1 w1 ⟨r, rfl, hq1, hr1, hr2, hr3⟩
  clear hqd c10 cg e10
  go_upto_if 50 with fail
  have HQ1 : Hid (Quiet W.drew.drew w1) := hq1
  have HR1 : Hid (r ≤ m.queue.length) := hr1
  have HR2 : Hid (∀ t q, t < r → m.queue[t]? = some q → q < k) := hr2
  have HR3 : Hid (∀ t q, r ≤ t → m.queue[t]? = some q → k ≤ q) := hr3
  clear hq1 hr1 hr2 hr3
  generalize hfb : decide (m.queue[r]? = some k) = fb
  have HFB : Hid (decide (m.queue[r]? = some k) = fb) := hfb
  clear hfb
  go_cut [] from 51 (fun wx => JCut W F L (queueM m k) ps wx)
  case first =>
    have h1 : LedAt w1 F L m ⟨dm, sm, es, ck, es2, ck2, .slice (some ⟨g0, 0, none⟩) m.subs.length cs, vq, vr, ps⟩ := HLW.out.frame (fun _ _ => by rw [HQ1.out.heap]; rfl) (by rw [HQ1.out.heap]; exact Nat.le_refl _)
    have hf1 : Framed W F w1 F := ⟨HQ1.out.os, HQ1.out.tape, HQ1.out.output, by rw [HQ1.out.heap]; exact Nat.le_refl _, fun _ _ _ => by rw [HQ1.out.heap]; rfl, fun _ hf => Or.inl hf⟩
    cases fb
    case true =>
      have hfd : m.queue[r]? = some k := of_decide_eq_true HFB.out
      have hrl := (List.getElem?_eq_some_iff.1 hfd).1
      obtain ⟨g, qc, rfl⟩ : ∃ g qc, vq = .slice (some ⟨g, 0, none⟩) m.queue.length qc := by
        rcases h1.queue.2 with ⟨_, hz⟩ | ⟨g, cap, cur, hv, _⟩
        · omega
        · exact ⟨g, cap, hv⟩
      have hdel := deleAt_any g qc m.queue.length ((m.queue.map (qel ps m.subs)).map pv) r w1 (Nat.le_trans HM.out.queue hN) hrl h1.queue (fun u hu => by
        obtain ⟨y, _, rfl⟩ := List.mem_map.1 hu
        rfl)
      have c12 : w1.cell? ⟨L, 12, none⟩ = some (.slice (some ⟨g, 0, none⟩) m.queue.length qc) := h1.led.cell 12
      have hL1 := h1.led
      have hgL : g ≠ L := by
        obtain ⟨C, hC⟩ := owns_row h1.queue (k := g) rfl
        exact hC.apart h1.led (by decide)
      have H1 : Hid _ := h1
      have HF1 : Hid _ := hf1
      have HFD : Hid (m.queue[r]? = some k) := hfd
      have hrm : r < 4096 := Nat.lt_of_lt_of_le hrl (Nat.le_trans HM.out.queue hN)
      obtain ⟨qn, hqn⟩ : ∃ qn, qn = m.queue.length := ⟨_, rfl⟩
      have HQN : Hid (qn = m.queue.length) := hqn
      rw [← hqn] at c12 hdel
      clear h1 hf1 hfd hrl hqn
      go_wp2_with fail
      refine hdel.mono ?_
      rintro e2 w2 ⟨rfl, hown2, hgr2⟩
      have k12 : w2.cell? ⟨L, 12, none⟩ = some (.slice (some ⟨g, 0, none⟩) qn qc) := (hgr2.cell_far ⟨L, 12, none⟩ hL1.lt (by simp; omega)).trans c12
      have f12 : w2.frozen? ⟨L, 12, none⟩ = false := (hgr2.frozen_far ⟨L, 12, none⟩ hL1.lt (by simp; omega)).trans (hL1.frozen 12)
      have hfil := queue_found HM.out.sorted HFD.out
      have hlen : (m.queue.eraseIdx r).length = qn - 1 := by
        rw [List.length_eraseIdx, HQN.out, if_pos ((List.getElem?_eq_some_iff.1 HFD.out).1)]
      have FIN := LedAt.requeue H1.out (Q' := m.queue.filter fun i => i != k) (w3 := w2) (v' := .slice (some ⟨g, 0, none⟩) (qn - 1) qc) (by
        rw [hfil, hlen, map_eraseIdx', map_eraseIdx']
        exact hown2) rfl (by rw [← HQN.out]; exact hgr2)
      have HFIN : Hid _ := FIN
      clear FIN hfil hlen hown2 hgr2 hdel hL1 c12
      go_wp2
      go_meet
      exact ⟨_, HFIN.out.1, rfl, HF1.out.trans HFIN.out.2⟩
    case false =>
      have hfd : ¬ m.queue[r]? = some k := of_decide_eq_false HFB.out
      have hmis := queue_missed HM.out.sorted HR2.out HR3.out hfd
      have hmm : queueM m k = m := by unfold queueM; rw [hmis]
      have HMM : Hid (queueM m k = m) := hmm
      have H1 : Hid _ := h1
      have HF1 : Hid _ := hf1
      clear h1 hf1 hfd hmis hmm
      go_wp2
      go_meet
      rw [HMM.out]
      exact ⟨_, H1.out, rfl, HF1.out⟩
  case rest =>
    rename World => wa
    have HCUT : Hid (JCut W F L (queueM m k) ps wa) := hcut
    clear hcut HFB HLW HQ1 HR1 HR2 HR3
    have a11 : wa.cell? ⟨w.heap.size, 11, none⟩ = some (.int .i64 e.res) := HCUT.out.cell (by rw [HWZ.out]; omega) HNE.out e11
    go_upto_if 66 with fail
    generalize hzb : (e.res == 0) = zb
    have HZB : Hid ((e.res == 0) = zb) := hzb
    clear hzb a11
    go_cut [] from 67 (fun wx => JCut W F L (solveM (queueM m k) (subAt m.subs k).team (subAt m.subs k).task e.res) ps wx)
    case first =>
      cases zb
      case true =>
        have hz : e.res = 0 := by simpa using HZB.out
        obtain ⟨x1, g1, g2, g3⟩ := HCUT.out
        have hsub : F p ∧ Blk wa p (subC L k (subAt m.subs k)) 112 := g1.sub k p (by
          rw [g2, HP.out]
          exact ps_get (by rw [← g2, show x1.ps.length = m.subs.length from g1.len]; exact HKS.out))
        have l11 : wa.cell? ⟨L, 11, none⟩ = some (.map (some x1.sm)) := g1.led.cell 11
        have p2 : wa.cell? ⟨p, 2, none⟩ = some (.string (subAt m.subs k).team) := hsub.2.cell 2
        have p4 : wa.cell? ⟨p, 4, none⟩ = some (.int .i64 (subAt m.subs k).task) := hsub.2.cell 4
        obtain ⟨hk1, hk2⟩ := HM.out.keys _ (subAt_mem HKS.out)
        obtain ⟨es', ck', hup, hsol⟩ := SolMap.update (ck := x1.ck2) g1.sol hk1 hk2
        have hrun := hup wa.drew x1.sm g1.smap
        have hslt : x1.sm < wa.heap.size := g1.below _ g1.fsm
        have FIN := LedAt.resolve g1 (w' := setBlock wa.drew x1.sm (.map es' ck')) hsol (setBlock_same (by exact hslt) _) (fun j hj => setBlock_other hj _) (setBlock_size _ _ _) ⟨rfl, rfl, rfl⟩
        have HFIN : Hid _ := FIN
        have HG2 : Hid _ := g2
        have HG3 : Hid _ := g3
        have HZ : Hid (e.res = 0) := hz
        clear FIN g1 g2 g3 hsub hup hsol hz hk1 hk2
        go_upto_region 8 with fail
        go_region
        go_wp2_with fail
        go_meet
        refine ⟨{ x1 with es2 := es', ck2 := ck' }, ?_, HG2.out, HG3.out.trans HFIN.out.2⟩
        have := HFIN.out.1
        unfold solveM
        rw [if_pos HZ.out]
        exact this
      case false =>
        have hz : ¬ e.res = 0 := by simpa using HZB.out
        have hmm : solveM (queueM m k) (subAt m.subs k).team (subAt m.subs k).task e.res = queueM m k := by unfold solveM; rw [if_neg hz]
        have HMM : Hid _ := hmm
        clear hmm hz
        go_wp2
        go_meet
        rw [HMM.out]
        exact HCUT.out
    case rest =>
      rename World => wb
      have HCUT2 : Hid (JCut W F L (solveM (queueM m k) (subAt m.subs k).team (subAt m.subs k).task e.res) ps wb) := hcut
      clear hcut HZB HCUT
      obtain ⟨x2, g1, g2, g3⟩ := HCUT2.out
      clear HCUT2
      have hsub : F p ∧ Blk wb p (subC L k (subAt m.subs k)) 112 := g1.sub k p (by
        rw [g2, HP.out]
        exact ps_get (by rw [← g2, show x2.ps.length = m.subs.length from g1.len]; exact HKS.out))
      have p9 : wb.cell? ⟨p, 9, none⟩ = some (.bool (subAt m.subs k).cnt) := hsub.2.cell 9
      have b11 : wb.cell? ⟨w.heap.size, 11, none⟩ = some (.int .i64 e.res) := (World.cell?_of_block (g3.block w.heap.size (by rw [HWZ.out]; omega) HNE.out)).trans e11
      obtain ⟨ra, rc, hvr⟩ := owns_form g1.recs
      have l13 : wb.cell? ⟨L, 13, none⟩ = some x2.vr := g1.led.cell 13
      have hLb := g1.led
      obtain ⟨rn, hrn⟩ : ∃ rn, rn = m.recs.length := ⟨_, rfl⟩
      have hrm : rn ≤ 4096 := by rw [hrn]; exact Nat.le_trans HM.out.recs hN
      have hvr' : x2.vr = .slice ra rn rc := by rw [hvr, hrn]; rfl
      rw [hvr'] at l13
      have hjm : m.judgeAt k e.res = { (solveM (queueM m k) (subAt m.subs k).team (subAt m.subs k).task e.res) with recs := if (subAt m.subs k).cnt then m.recs ++ [(k, e.res)] else m.recs } := rfl
      have HJM : Hid _ := hjm
      have HG1 : Hid _ := g1
      have HG2 : Hid _ := g2
      have HG3 : Hid _ := g3
      have HLB : Hid (Blk wb L (ledC (solveM (queueM m k) (subAt m.subs k).team (subAt m.subs k).task e.res) x2.dm x2.sm x2.vs x2.vq x2.vr) 108) := hLb
      have hLlt := hLb.lt
      have hElt : w.heap.size < wb.heap.size := Nat.lt_of_lt_of_le (by rw [HWZ.out]; omega) g3.size
      have hownr : ∀ o, (wb.alloc o).drew.ownsRow 0 114 2 (.slice ra rn rc) rn (m.recs.flatMap (recV ps)) := fun o => by
        have := g1.recs
        rw [hvr', g2] at this
        rw [hrn] at this ⊢
        refine owns_of_block this (fun j hj => Below.heap_alloc _ _ _ ?_)
        obtain ⟨C, hC⟩ := owns_row this hj
        exact hC.lt
      have hc13 : ∀ o, (wb.alloc o).drew.cell? ⟨L, 13, none⟩ = some (.slice ra rn rc) := fun o => by
        have := (hLb.alloc o).cell 13
        rw [← hvr']
        exact this
      have hf13 : ∀ o, (wb.alloc o).drew.frozen? ⟨L, 13, none⟩ = false := fun o => (hLb.alloc o).frozen 13
      have HC13 : Hid _ := hc13
      have HF13 : Hid _ := hf13
      clear hc13 hf13
      have hLr : (Value.slice ra rn rc).ownBlock ≠ some L := by
        have := owns_ne g1.recs g1.led (by decide)
        rw [hvr'] at this
        exact this
      have hgE : (Value.slice ra rn rc).ownBlock ≠ some w.heap.size := fun hj => by
        rw [← hvr'] at hj
        exact HNE.out (g1.fr _ hj)
      have HVR : Hid (x2.vr = .slice ra rn rc) := hvr'
      have HRN : Hid (rn = m.recs.length) := hrn
      have HWB : Hid (Framed w F wb F) := HWF.out.trans g3
      obtain ⟨i0, hi0, hz0, hz1, hz2⟩ := info_parts infoF114
      clear hjm g1 g2 g3 hLb hvr hvr' hsub hrn
      cases hcb : (subAt m.subs k).cnt
      · rw [hcb] at p9
        have HCB : Hid ((subAt m.subs k).cnt = false) := hcb
        clear hcb hownr
        go_wp2
        go_ret
        refine ⟨_, F, rfl, rfl, ⟨x2, ?_⟩, HWB.out⟩
        rw [HJM.out, HCB.out]
        exact HG1.out
      · rw [hcb] at p9
        have HCB : Hid ((subAt m.subs k).cnt = true) := hcb
        clear hcb
        go_upto_region 10 with fail
        go_region_law (refine step_append_lies _ (by rfl) (.tmp 90) (.tmp 95) 104 (by rfl) 0 114 i0 _ 2 16 Tryf.underlying104 hi0 hz0 hz1 hz2 (by rfl) (by omega) (.slice ra rn rc) rn (m.recs.flatMap (recV ps)) (by simp [Act.eval]) (hownr _) ⟨wb.heap.size, 0, none⟩ 1 1 [.pointer (some ⟨p, 0, none⟩), .int .i64 e.res] (by simp [Act.eval]) (by rfl) (World.news_of_block (heap_alloc_new wb _)) (by simp [Value.oneCell']) (by omega) (by unfold maxLen; omega) (by omega) (Nat.zero_le _) (wb.heap.size + 1) (by simp) ?_; intro g cap w4 hown4 hgr4 hat4 hlt4; have q13 : w4.cell? ⟨L, 13, none⟩ = some (.slice ra rn rc) := (hgr4.cell_far ⟨L, 13, none⟩ (by simp; omega) (fun e => hLr e.symm)).trans (HC13.out _); have f13 : w4.frozen? ⟨L, 13, none⟩ = false := (hgr4.frozen_far ⟨L, 13, none⟩ (by simp; omega) (fun e => hLr e.symm)).trans (HF13.out _))
        all_goals (go_wp2_with fail)
        all_goals go_ret
        all_goals (
          have hrv : recV x2.ps (k, e.res) = [.pointer (some ⟨p, 0, none⟩), .int .i64 e.res] := by unfold recV ptrV; rw [HG2.out, HP.out]
          have FIN := LedAt.record HG1.out (r := (k, e.res)) (g := g) (cap := cap) (w4 := w4) (o := .cells #[.pointer (some ⟨p, 0, none⟩), .int .i64 e.res] 114) (by
            rw [hrv, HG2.out]
            have := hown4
            rw [HRN.out] at this
            exact this) (by
            rw [HVR.out]
            exact ⟨hgr4.os, hgr4.tape, hgr4.output, hgr4.size, hgr4.block⟩) (by
            rw [HVR.out]
            exact hat4)
          have f1 := FIN.1
          have f2 := FIN.2
          rw [show (solveM (queueM m k) (subAt m.subs k).team (subAt m.subs k).task e.res).recs.length = rn from HRN.out.symm] at f1 f2
          refine ⟨_, (fun j => F j ∨ j = g), rfl, rfl, ⟨{ x2 with vr := .slice (some ⟨g, 0, none⟩) (rn + 1) cap }, ?_⟩, HWB.out.trans f2⟩
          rw [HJM.out, HCB.out]
          exact f1)
end Go.Proofs.Qxb6616853aFmt
