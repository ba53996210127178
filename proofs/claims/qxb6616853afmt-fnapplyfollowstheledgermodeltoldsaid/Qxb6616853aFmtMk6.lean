import Derived.Test.Qxb6616853aFmtMq
import Derived.Deep.RegionWith
import Derived.BigQuiet
namespace Go.Proofs.Qxb6616853aFmt
open Go.RowKit
attribute [local go_sem ↓] Go.wp_at_zero Go.wp_at_succ

/-- A ledger with the team among the disqualified. -/
def disqM (m : PLed) (t : ByteArray) : PLed := { m with disq := addS m.disq t }

set_option maxRecDepth 100000 in
set_option maxHeartbeats 4000000 in
theorem step_k6 (w : World) (v : Value) (Ls : List PLed) (x : Nat → Nat → Value) (N : Nat) (e : PEv) (vt vn vm vb : Value) (h : IsMod w v Ls x) (hok : AllOk Ls N) (hN : N < 4096) (he : e.Ok) (hkd : e.kind = 6) :
    Calls Tryf.prog 8 #[v, .agg (evA e vt vn vm vb)] w (StepPost w (foot v Ls.length x) (stepAll Ls e) (refAll Ls e)) := by
  have HKD : Hid _ := hkd
  clear hkd
  obtain ⟨va, vc, hv⟩ := owns_form h.row
  obtain ⟨F, hF⟩ : ∃ F, F = foot v Ls.length x := ⟨_, rfl⟩
  rw [← hF]
  obtain ⟨W, hW⟩ : ∃ W, W = w.alloc (.cells (evA e vt vn vm vb) 32) := ⟨_, rfl⟩
  have hWb : Below w.heap.size w W := by rw [hW]; exact (Below.refl _ _).alloc (Nat.le_refl _) _
  have hWz : W.heap.size = w.heap.size + 1 := by rw [hW]; simp
  have hEW : Blk W w.heap.size (evA e vt vn vm vb) 32 := by rw [hW]; exact Blk.new _ _ _
  have hMW : IsMod W v Ls x := ModAt.below h hWb
  have hnE : ¬ F w.heap.size := fun hf => absurd (h.foot_lt (by rw [hF] at hf; exact hf)) (by omega)
  have hWF : Framed w (F) W (F) := Framed.ofBelow hWb (Nat.le_refl _)
  have hn4 : Ls.length < 4096 := Nat.lt_of_le_of_lt hok.2.2 hN
  obtain ⟨n, hn⟩ : ∃ n, n = Ls.length := ⟨_, rfl⟩
  have hq : ∀ i, i < n → ∃ g, va = some ⟨g, 0, none⟩ ∧ W.cell? ⟨g, i * 13, none⟩ = some (.string (ledAt Ls i).name) := fun i hi => by
    rcases hMW.row.form (by omega) with ⟨g, cap, hv', _⟩
    rw [hv] at hv'
    cases hv'
    refine ⟨g, rfl, ?_⟩
    have hc := hMW
    rw [hv] at hc
    exact hc.cell (i := i) (p := 0) (by omega) (by omega)
  have e1 : W.cell? ⟨w.heap.size, 1, none⟩ = some (.string e.oly) := hEW.cell 1
  have hownv : ∀ wr o, Quiet W wr → (wr.alloc o).ownsRow 0 43 13 (.slice va n vc) n (rows n fun i => mrC (MR.of (ledAt Ls i)) (x i)) := fun wr o hq' => by
    have := hMW.row
    rw [hv] at this
    rw [hn]
    have h2 : wr.ownsRow 0 43 13 (.slice va Ls.length vc) Ls.length (rows Ls.length fun i => mrC (MR.of (ledAt Ls i)) (x i)) := owns_of_block this (fun k _ => by rw [hq'.heap])
    exact h2.alloc o
  have HMW : Hid (IsMod W v Ls x) := hMW
  have HEW : Hid (Blk W w.heap.size (evA e vt vn vm vb) 32) := hEW
  have HW : Hid (W = w.alloc (.cells (evA e vt vn vm vb) 32)) := hW
  have HWF : Hid (Framed w (F) W (F)) := hWF
  have HWB : Hid (Below w.heap.size w W) := hWb
  have HWZ : Hid (W.heap.size = w.heap.size + 1) := hWz
  have HNE : Hid (¬ F w.heap.size) := hnE
  have HV : Hid (v = .slice va Ls.length vc) := hv
  have HF : Hid (F = foot v Ls.length x) := hF
  have HNL : Hid (n = Ls.length) := hn
  have HOK : Hid (AllOk Ls N) := hok
  have HE : Hid e.Ok := he
  have HOWN : Hid (∀ wr o, Quiet W wr → (wr.alloc o).ownsRow 0 43 13 (.slice va n vc) n (rows n fun i => mrC (MR.of (ledAt Ls i)) (x i))) := hownv
  have hnN : n < 4096 := by omega
  obtain ⟨i0, hi0, hz0, hz1, hz2⟩ := info_parts infoF43
  have hv2 : v = .slice va n vc := by rw [hn]; exact hv
  rw [hv2]
  clear hF hMW hEW hW hWF hWb hWz hnE hv hn hok he hv2 h hn4 hownv
  unfold evA at HW ⊢
  go_enter Tryf.func8, Tryf.ntmps8
  go_upto_region 1 with fail
  rw [← HW.out]
  clear HW
  go_upto_block 0 with fail
  go_cut [6, 7] from 17 to 31 (fun v6 v7 wx => ∃ z, v6 = .int .i64 z ∧ Quiet W wx ∧ Scan Ls e.oly z)
  case first =>
    go_wp2_with fail
    go_loopw [6, 7] (fun vi vj wr => ∃ k : Nat, k ≤ n ∧ vi = .int .i64 (-1) ∧ vj = .int .i64 k ∧ (∀ j, j < k → eqS (ledAt Ls j).name e.oly = false) ∧ Quiet W wr) (fun _ vj _ => n - (intOf vj).toNat)
    case atStart => exact ⟨0, Nat.zero_le _, rfl, rfl, fun j hj => absurd hj (Nat.not_lt_zero _), Quiet.refl _⟩
    case round =>
      obtain ⟨k, hk, rfl, rfl, hno, hqt⟩ := hrel
      have HNO : Hid (∀ j, j < k → eqS (ledAt Ls j).name e.oly = false) := hno
      have HQT : Hid (Quiet W wr) := hqt
      clear hno
      by_cases hlt : k < n
      · obtain ⟨g, rfl, hc1⟩ := hq k hlt
        rw [← hqt.cell] at hc1 e1
        clear hq hqt
        cases ha : eqS (ledAt Ls k).name e.oly
        · have ha1 : ((ledAt Ls k).name.toList == e.oly.toList) = false := ha
          have HA : Hid (eqS (ledAt Ls k).name e.oly = false) := ha
          clear ha
          go_wp2_with fail
          go_region
          go_wp2
          go_round
          case rel => exact ⟨k + 1, by omega, rfl, by go_num, fun j hj => by
            by_cases hjk : j = k
            · subst hjk
              exact HA.out
            · exact HNO.out j (by omega), HQT.out.trans ⟨rfl, rfl, rfl, rfl⟩⟩
          case measure => simp [intOf]; omega
        · have ha1 : ((ledAt Ls k).name.toList == e.oly.toList) = true := ha
          have HA : Hid (eqS (ledAt Ls k).name e.oly = true) := ha
          clear ha
          go_wp2_with fail
          go_region
          go_wp2
          go_meet
          exact ⟨k, rfl, HQT.out.trans ⟨rfl, rfl, rfl, rfl⟩, Or.inl ⟨k, rfl, by rw [← HNL.out]; exact hlt, HNO.out, HA.out⟩⟩
      · obtain rfl : k = n := by omega
        clear hq hlt hk hqt
        go_wp2
        go_meet
        exact ⟨-1, rfl, HQT.out, Or.inr ⟨rfl, by rw [← HNL.out]; exact HNO.out⟩⟩
  case rest =>
  rename World => wr
  obtain ⟨z, rfl, hqt, hsc⟩ := hcut
  have HQT : Hid (Quiet W wr) := hqt
  have HSC : Hid (Scan Ls e.oly z) := hsc
  rw [← hqt.cell] at e1
  clear hq hqt hsc
  go_upto_if 33 with fail
  go_cut [0, 6] from 32 to 42 (fun v0 v6 wx => Mid W (F) Ls e.oly v0 v6 wx)
  case first =>
    by_cases hz : z < 0
    · have hno : ∀ j, j < Ls.length → eqS (ledAt Ls j).name e.oly = false := by
        rcases HSC.out with ⟨k, rfl, _⟩ | ⟨_, h2⟩
        · omega
        · exact h2
      have HNO : Hid (∀ j, j < Ls.length → eqS (ledAt Ls j).name e.oly = false) := hno
      clear hno
      go_wp2_with (at_builtin; refine wpList_append_lies _ rfl (.tmp 34) (.tmp 38) 28 rfl 0 43 i0 _ 13 200 Tryf.underlying28 hi0 hz0 hz1 hz2 rfl (by omega) (.slice va n vc) n (rows n fun i => mrC (MR.of (ledAt Ls i)) (x i)) rfl (HOWN.out _ _ HQT.out) ⟨wr.heap.size, 0, none⟩ 1 1 (mrC (MR.fresh e.oly) (fun _ => .slice none 0 0)) rfl rfl (World.news_of_block (heap_alloc_new wr _)) (by simp [Value.oneCell', mrC]) (by omega) (by unfold maxLen; omega) (by omega) (Nat.zero_le _) (wr.heap.size + 1) (by simp) ?_; intro g cap w4 hown4 hgr4 hat4 hlt4)
      go_meet
      have := Mid.pushed (H := wr.heap.size + 1) (g := g) (cap := cap) (w1 := w4) HMW.out HQT.out HNO.out (by rw [← HNL.out]; exact hown4) (by rw [HV.out, ← HNL.out]; exact hgr4) (by rw [HV.out, ← HNL.out]; exact hat4) rfl
      rw [← HF.out, ← HNL.out] at this
      exact this
    · go_wp2
      go_meet
      rcases HSC.out with ⟨k, rfl, h1, h2, h3⟩ | ⟨h1, _⟩
      · have := Mid.found HMW.out HQT.out h1 h2 h3
        rw [← HF.out, HV.out, ← HNL.out] at this
        exact this
      · omega
  case rest =>
    rename World => wa
    obtain ⟨g, cap, i, x1, rfl, rfl, hi, hmid, hfr⟩ := hcut
    clear HOWN HNL HMW HSC HQT HF HV
    have hiL : i < (withL Ls e.oly).length := by rw [hi]; exact placeOf_lt _ _
    have hLl : (withL Ls e.oly).length ≤ Ls.length + 1 := withL_length_le _ _
    obtain ⟨l, hl⟩ : ∃ l, l = (withL Ls e.oly).length := ⟨_, rfl⟩
    rw [← hl] at hiL
    have hl4 : l ≤ 4096 := by have := HOK.out.2.2; omega
    have HL : Hid (l = (withL Ls e.oly).length) := hl
    have hmok : (ledAt (withL Ls e.oly) i).Ok N := HOK.out.withL HE.out.oly _ (ledAt_mem (by rw [← hl]; exact hiL))
    obtain ⟨m, hm⟩ : ∃ m, m = ledAt (withL Ls e.oly) i := ⟨_, rfl⟩
    rw [← hm] at hmok
    have HMEQ : Hid (m = ledAt (withL Ls e.oly) i) := hm
    have HMOK : Hid (m.Ok N) := hmok
    have hEa : Blk wa w.heap.size #[.int .i64 e.kind, .string e.oly, .int .i64 e.at_, .string e.team, vt, .int .i64 e.task, .string e.comp, .bool e.force, .int .i64 e.sub, .int .i64 e.res, vn, vm, .int .i64 e.left, .bool e.frozen, vb, .int .i64 e.off, .int .i64 e.size] 32 := (hfr.block _ (by rw [HWZ.out]; omega) HNE.out).trans HEW.out
    have HEA : Hid (Blk wa w.heap.size #[.int .i64 e.kind, .string e.oly, .int .i64 e.at_, .string e.team, vt, .int .i64 e.task, .string e.comp, .bool e.force, .int .i64 e.sub, .int .i64 e.res, vn, vm, .int .i64 e.left, .bool e.frozen, vb, .int .i64 e.off, .int .i64 e.size] 32) := hEa
    have hmid2 : ModAt wa (.slice (some ⟨g, 0, none⟩) l cap) l (fun i => MR.of (ledAt (withL Ls e.oly) i)) x1 := by rw [hl]; exact hmid
    have HMID : Hid (ModAt wa (.slice (some ⟨g, 0, none⟩) l cap) l (fun i => MR.of (ledAt (withL Ls e.oly) i)) x1) := hmid2
    have hFa : Framed w (F) wa (foot (.slice (some ⟨g, 0, none⟩) l cap) l x1) := by rw [hl]; exact HWF.out.trans hfr
    have HFA : Hid (Framed w (F) wa (foot (.slice (some ⟨g, 0, none⟩) l cap) l x1)) := hFa
    have hElt : w.heap.size < wa.heap.size := hEa.lt
    have HST : Hid (stepAll Ls e = (withL Ls e.oly).set i (m.step e)) := by rw [hm, hi]; rfl
    have HRF : Hid (refAll Ls e = m.refB e) := by rw [hm, hi]; rfl
    have hnotE : ¬ foot (.slice (some ⟨g, 0, none⟩) l cap) l x1 w.heap.size := fun hf => by
      rcases hfr.inside w.heap.size (by rw [← hl]; exact hf) with h1 | h1
      · exact HNE.out h1
      · have := HWZ.out
        omega
    have HNOTE : Hid (¬ foot (.slice (some ⟨g, 0, none⟩) l cap) l x1 w.heap.size) := hnotE
    have k0 : wa.cell? ⟨w.heap.size, 0, none⟩ = some (.int .i64 e.kind) := hEa.cell 0
    rw [← hl]
    clear hmid hmid2 hfr hl hm hi hEa hFa HWF HEW hmok hLl e1 hnN hnotE
    rw [HKD.out] at k0
    have k3 : wa.cell? ⟨w.heap.size, 3, none⟩ = some (.string e.team) := HEA.out.cell 3
    obtain ⟨da, dc, hvd⟩ := owns_form (HMID.out.own i 0 hiL (by omega))
    obtain ⟨dn, hdn⟩ : ∃ dn, dn = m.disq.length := ⟨_, rfl⟩
    have hvd' : x1 i 0 = .slice da dn dc := by rw [hvd, hdn, HMEQ.out]; rfl
    have c1 : wa.cell? ⟨g, i * 13 + 1, none⟩ = some (.slice da dn dc) := by rw [← hvd']; exact HMID.out.cell (p := 1) hiL (by omega)
    have hdm : dn < 4096 := by rw [hdn]; exact Nat.lt_of_le_of_lt HMOK.out.disq hN
    have hownd : wa.ownsRow 0 9 1 (.slice da dn dc) dn (m.disq.map .string) := by
      have := HMID.out.own i 0 hiL (by omega)
      rw [hvd', ← HMEQ.out] at this
      rw [hdn] at this ⊢
      exact this
    have HOWND : Hid (wa.ownsRow 0 9 1 (.slice da dn dc) dn (m.disq.map .string)) := hownd
    have HVD : Hid (x1 i 0 = .slice da dn dc) := hvd'
    have HDN : Hid (dn = m.disq.length) := hdn
    have hhas := hasStr_any wa.drew (.slice da dn dc) m.disq e.team (by rw [← hdn]; exact hownd) (by rw [← hdn]; omega)
    clear hvd hvd' hownd hdn
    go_upto_region 45 with fail
    go_cut [269] from 262 to 268 (fun v9 wx => ∃ r, v9 = .bool !r ∧ r = memB m.disq e.team ∧ Below wa.heap.size wa wx)
    case first =>
      go_region_with (go_at_call 15; refine hhas.mono ?_; rintro e1 wb ⟨r, rfl, hr, hbel⟩)
      all_goals (go_wp2_with fail)
      all_goals go_meet
      all_goals exact ⟨_, rfl, rfl, ⟨hbel.os, hbel.tape, hbel.output, hbel.size, hbel.block⟩⟩
    case rest =>
    rename World => wb
    obtain ⟨r, rfl, hr, hbel2⟩ := hcut
    have HR : Hid (r = memB m.disq e.team) := hr
    have HBEL : Hid (Below wa.heap.size wa wb) := hbel2
    have b3 : wb.cell? ⟨w.heap.size, 3, none⟩ = some (.string e.team) := (hbel2.cell (p := ⟨w.heap.size, 3, none⟩) hElt).trans k3
    have hglt : g < wa.heap.size := (HMID.out.row.lt g rfl).2
    have b1 : wb.cell? ⟨g, i * 13 + 1, none⟩ = some (.slice da dn dc) := (hbel2.cell (p := ⟨g, i * 13 + 1, none⟩) hglt).trans c1
    clear hr hbel2 hhas k3 c1 k0
    go_upto_if 269 with fail
    go_cut [] from 269 to 280 (fun wx => ModI wa (foot (.slice (some ⟨g, 0, none⟩) l cap) l x1) (.slice (some ⟨g, 0, none⟩) l cap) l (fun i => MR.of (ledAt (withL Ls e.oly) i)) i (MR.of (disqM m e.team)) wx)
    case first =>
      cases r
      · have hnm : ¬ e.team ∈ m.disq := fun hm => by
          have := HR.out
          rw [memB_iff.2 hm] at this
          cases this
        have HNM : Hid (¬ e.team ∈ m.disq) := hnm
        have hownb : ∀ o, (wb.alloc o).drew.ownsRow 0 9 1 (.slice da dn dc) dn (m.disq.map .string) := fun o => by
          have h1 : wb.ownsRow 0 9 1 (.slice da dn dc) dn (m.disq.map .string) := owns_of_block HOWND.out (fun b hb => HBEL.out.block b (HOWND.out.lt b hb).2)
          exact (h1.alloc o).drew
        have hMb := HMID.out.below HBEL.out
        have hgd : (Value.slice da dn dc).ownBlock ≠ some g := fun hb => by
          rw [← HVD.out] at hb
          exact hMb.inner hiL (by omega) hb rfl
        have hglb : g < wb.heap.size := (hMb.row.lt g rfl).2
        have HKP : Hid (∀ o w', (wb.alloc o).drew.grownBy w' (Value.slice da dn dc).ownBlock → w'.cell? ⟨g, i * 13 + 1, none⟩ = some (.slice da dn dc) ∧ w'.frozen? ⟨g, i * 13 + 1, none⟩ = false) := fun o w' hgr => by
          have hbk : w'.heap[g]? = wb.heap[g]? := (hgr.block g (by simp; omega) (fun e => hgd e.symm)).trans (Below.heap_alloc _ _ _ hglb)
          exact ⟨(World.cell?_of_block (a := ⟨g, i * 13 + 1, none⟩) hbk).trans b1, (World.frozen?_of_block (a := ⟨g, i * 13 + 1, none⟩) hbk).trans (hMb.frozen _)⟩
        have HMB : Hid _ := hMb
        obtain ⟨j0, hj0, hy0, hy1, hy2⟩ := info_parts infoF9
        clear hnm hMb hgd
        go_upto_region 46 with fail
        go_region_law (refine step_append_lies _ (by rfl) (.tmp 274) (.tmp 277) 38 (by rfl) 0 9 j0 _ 1 16 Tryf.underlying38 hj0 hy0 hy1 hy2 (by rfl) (by omega) (.slice da dn dc) dn (m.disq.map .string) (by simp [Act.eval]) (hownb _) ⟨wb.heap.size, 0, none⟩ 1 1 [.string e.team] (by simp [Act.eval]) (by rfl) (World.news_of_block (heap_alloc_new wb _)) (by simp [Value.oneCell']) (by omega) (by unfold maxLen; omega) (by omega) (Nat.zero_le _) (wb.heap.size + 1) (by simp) ?_; intro g4 cap4 w4 hown4 hgr4 hat4 hlt4; obtain ⟨q1, f1⟩ := HKP.out _ _ hgr4)
        all_goals (go_wp2_with fail)
        all_goals go_meet
        all_goals (
          have hM1 := HMB.out.congr (M' := put1 (fun i => MR.of (ledAt (withL Ls e.oly) i)) i (MR.of m)) (fun j _ => by
            by_cases hji : j = i
            · subst hji
              rw [put1_same, HMEQ.out]
              exact MR.Eq6.refl _
            · rw [put1_other _ _ hji]
              exact MR.Eq6.refl _)
          refine ModI.turned (f := 0) (M := MR.of m) (x := x1) (k' := dn + 1) (c' := m.disq.map Value.string ++ [Value.string e.team]) hM1 (Framed.ofBelow HBEL.out (Nat.le_refl _)) hiL (by omega) (by rw [HVD.out]; exact grown_of_alloc ⟨hgr4.os, hgr4.tape, hgr4.output, hgr4.size, hgr4.block⟩) hown4 (fun b hb => ?_) ?_
          · obtain rfl : g4 = b := by simpa [Value.ownBlock] using hb
            rw [HVD.out]
            rcases hat4 with h1 | h1
            · exact Or.inl h1
            · exact Or.inr (by omega)
          · refine Eq6_cases (fun _ => rfl) ⟨?_, rfl, rfl, rfl, rfl, rfl⟩ ⟨?_, rfl, rfl, rfl, rfl, rfl⟩
            · show dn + 1 = (addS m.disq e.team).length
              rw [addS_new HNM.out, HDN.out, List.length_append]
              rfl
            · show m.disq.map Value.string ++ [.string e.team] = (addS m.disq e.team).map .string
              rw [addS_new HNM.out, List.map_append]
              rfl)
      · have hM1 := ModI.start (i := i) (M := MR.of (disqM m e.team)) HMID.out (by
          rw [← HMEQ.out]
          have : disqM m e.team = m := by
            unfold disqM
            rw [addS_old (memB_iff.1 HR.out.symm)]
          rw [this]
          exact MR.Eq6.refl _) HBEL.out
        have HM1 : Hid _ := hM1
        clear hM1
        go_wp2
        go_meet
        exact HM1.out
    case rest =>
    rename World => wc
    have HMI : Hid (ModI wa (foot (.slice (some ⟨g, 0, none⟩) l cap) l x1) (.slice (some ⟨g, 0, none⟩) l cap) l (fun i => MR.of (ledAt (withL Ls e.oly) i)) i (MR.of (disqM m e.team)) wc) := hcut
    clear hcut HR HOWND HVD HDN
    obtain ⟨x2, hm2, hf2⟩ := HMI.out
    have t3 : wc.cell? ⟨w.heap.size, 3, none⟩ = some (.string e.team) := (HMI.out.block HNOTE.out HEA.out).cell 3
    have hEc : w.heap.size < wc.heap.size := (HMI.out.block HNOTE.out HEA.out).lt
    obtain ⟨qa, qc, hvq⟩ := owns_form (hm2.own i 3 hiL (by omega))
    obtain ⟨sa, sc, hvs⟩ := owns_form (hm2.own i 1 hiL (by omega))
    rw [put1_same] at hvq hvs
    obtain ⟨qn, hqn⟩ : ∃ qn, qn = m.queue.length := ⟨_, rfl⟩
    obtain ⟨sn, hsn⟩ : ∃ sn, sn = m.subs.length := ⟨_, rfl⟩
    have hvq' : x2 i 3 = .slice qa qn qc := by rw [hvq, hqn]; rfl
    have hvs' : x2 i 1 = .slice sa sn sc := by rw [hvs, hsn]; rfl
    have hqm : qn < 4096 := by rw [hqn]; exact Nat.lt_of_le_of_lt HMOK.out.queue hN
    have hsm : sn < 4096 := by rw [hsn]; exact Nat.lt_of_le_of_lt HMOK.out.subs hN
    have c10 : wc.cell? ⟨g, i * 13 + 10, none⟩ = some (.slice qa qn qc) := by rw [← hvq']; exact hm2.cell (p := 10) hiL (by omega)
    have c8 : wc.cell? ⟨g, i * 13 + 8, none⟩ = some (.slice sa sn sc) := by rw [← hvs']; exact hm2.cell (p := 8) hiL (by omega)
    have f10 := hm2.frozen (i * 13 + 10)
    have hgc : g < wc.heap.size := (hm2.row.lt g rfl).2
    have hrd : ∀ k q, m.queue[k]? = some q → ∃ gq gs, qa = some ⟨gq, 0, none⟩ ∧ sa = some ⟨gs, 0, none⟩ ∧ gq < wc.heap.size ∧ gs < wc.heap.size ∧ q < sn ∧ wc.cell? ⟨gq, k, none⟩ = some (.int .i64 ((q : Int) + 1)) ∧ wc.cell? ⟨gs, q * 9 + 1, none⟩ = some (.string (subAt m.subs q).team) := fun k q hk => by
      have hkl := (List.getElem?_eq_some_iff.1 hk).1
      have hq2 : q < m.subs.length := HMOK.out.qlt q (List.mem_of_getElem? hk)
      have o1 := hm2.own i 3 hiL (by omega)
      have o2 := hm2.own i 1 hiL (by omega)
      rw [put1_same, hvq'] at o1
      rw [put1_same, hvs'] at o2
      have o1' : wc.ownsRow 0 3 1 (.slice qa qn qc) qn (m.queue.map idV) := by rw [hqn] at o1 ⊢; exact o1
      have o2' : wc.ownsRow 0 71 9 (.slice sa sn sc) sn (asubs m.subs) := by rw [hsn] at o2 ⊢; exact o2
      obtain ⟨gq, cq, hgq, _, hlq⟩ := o1'.form (by omega)
      obtain ⟨gs, cs, hgs, _, hls⟩ := o2'.form (by omega)
      cases hgq
      cases hgs
      refine ⟨gq, gs, rfl, rfl, hlq, hls, by omega, ?_, ?_⟩
      · rw [o1'.cellAt k (by omega), List.getElem?_map, hk]
        rfl
      · rw [o2'.cellAt (q * 9 + 1) (by omega)]
        exact rows_get (s := 9) (f := fun i => asubC i (subAt m.subs i)) (p := 1) m.subs.length (fun _ _ => rfl) hq2 (by omega)
    have HM2 : Hid _ := hm2
    have HF2 : Hid _ := hf2
    have HQN : Hid (qn = m.queue.length) := hqn
    have HVQ : Hid (x2 i 3 = .slice qa qn qc) := hvq'
    obtain ⟨j3, hj0, hy0, hy1, hy2⟩ := info_parts infoF3
    clear hm2 hf2 hvq hvs hvq' hvs' hqn hsn
    go_wp2
    go_loopw [15, 16] (fun v1 vj wr => ∃ (k : Nat) (vq : Value), k ≤ qn ∧ vj = .int .i64 k ∧ vq = v1 ∧ Reb wc m.queue (fun i => !eqS (subAt m.subs i).team e.team) k vq wr) (fun _ vj _ => qn - (intOf vj).toNat)
    case atStart => exact ⟨0, _, Nat.zero_le _, rfl, rfl, Reb.start _ _ _⟩
    case round =>
    obtain ⟨k, vq, hk, rfl, rfl, hreb⟩ := hrel
    have HREB : Hid _ := hreb
    have hbl := hreb.below
    have r10 : wr.cell? ⟨g, i * 13 + 10, none⟩ = some (.slice qa qn qc) := (hbl.cell (p := ⟨g, i * 13 + 10, none⟩) hgc).trans c10
    by_cases hlt : k < qn
    · obtain ⟨q, hqk⟩ : ∃ q, m.queue[k]? = some q := ⟨_, List.getElem?_eq_getElem (by rw [← HQN.out]; exact hlt)⟩
      obtain ⟨gq, gs, rfl, rfl, l1, l2, l3, h4, h5⟩ := hrd k q hqk
      have r8 : wr.cell? ⟨g, i * 13 + 8, none⟩ = some (.slice (some ⟨gs, 0, none⟩) sn sc) := (hbl.cell (p := ⟨g, i * 13 + 8, none⟩) hgc).trans c8
      have r3 : wr.cell? ⟨w.heap.size, 3, none⟩ = some (.string e.team) := (hbl.cell (p := ⟨w.heap.size, 3, none⟩) hEc).trans t3
      have rq : wr.cell? ⟨gq, k, none⟩ = some (.int .i64 ((q : Int) + 1)) := (hbl.cell (p := ⟨gq, k, none⟩) l1).trans h4
      have rs : wr.cell? ⟨gs, q * 9 + 1, none⟩ = some (.string (subAt m.subs q).team) := (hbl.cell (p := ⟨gs, q * 9 + 1, none⟩) l2).trans h5
      have HQK : Hid (m.queue[k]? = some q) := hqk
      have hcl : ((m.queue.take k).filter fun i => !eqS (subAt m.subs i).team e.team).length ≤ qn := Nat.le_trans (List.length_filter_le _ _) (by rw [List.length_take]; omega)
      obtain ⟨c, hc⟩ : ∃ c, c = ((m.queue.take k).filter fun i => !eqS (subAt m.subs i).team e.team).length := ⟨_, rfl⟩
      rw [← hc] at hcl
      have HC : Hid (c = ((m.queue.take k).filter fun i => !eqS (subAt m.subs i).team e.team).length) := hc
      have hownq : ∀ o, (wr.alloc o).drew.ownsRow 0 3 1 vq c (((m.queue.take k).filter fun i => !eqS (subAt m.subs i).team e.team).map idV) := fun o => by
        have := hreb.own
        rw [← hc] at this
        exact (World.ownsRow.alloc (w := wr) this o).drew
      have HOWNQ : Hid _ := hownq
      clear hreb hbl hrd hqk hc hownq h4 h5 c8 c10 t3
      cases ha : eqS (subAt m.subs q).team e.team
      · have ha1 : ((subAt m.subs q).team.toList == e.team.toList) = false := ha
        have HA : Hid (eqS (subAt m.subs q).team e.team = false) := ha
        clear ha
        go_wp2_with fail
        go_region
        go_wp2_with (at_builtin; refine wpList_append_lies _ rfl (.tmp 308) (.tmp 316) 41 rfl 0 3 j3 _ 1 8 Tryf.underlying41 hj0 hy0 hy1 hy2 rfl (by omega) vq c _ rfl (HOWNQ.out _) ⟨wr.heap.size, 0, none⟩ 1 1 [.int .i64 ((q : Int) + 1)] rfl rfl (World.news_of_block (heap_alloc_new wr _)) (by simp [Value.oneCell']) (by omega) (by unfold maxLen; omega) (by omega) (Nat.zero_le _) (wr.heap.size + 1) (by simp) ?_; intro g4 cap4 w4 hown4 hgr4 hat4 hlt4)
        go_round
        case rel =>
          refine ⟨k + 1, _, by omega, by go_num, rfl, ?_⟩
          exact (HREB.out.quiet (wr' := wr.drew) ⟨rfl, rfl, rfl, rfl⟩).push HQK.out (by rw [HA.out]; rfl) HC.out hown4 (o := .cells #[.int .i64 ((q : Int) + 1)] 3) ⟨hgr4.os, hgr4.tape, hgr4.output, hgr4.size, hgr4.block⟩ hat4 rfl
        case measure => simp [intOf]; omega
      · have ha1 : ((subAt m.subs q).team.toList == e.team.toList) = true := ha
        have HA : Hid (eqS (subAt m.subs q).team e.team = true) := ha
        clear ha
        go_wp2_with fail
        go_region
        go_wp2
        go_round
        case rel =>
          refine ⟨k + 1, _, by omega, by go_num, rfl, ?_⟩
          exact (HREB.out.quiet (wr' := wr.drew) ⟨rfl, rfl, rfl, rfl⟩).skip HQK.out (by rw [HA.out]; rfl)
        case measure => simp [intOf]; omega
    · obtain rfl : k = qn := by omega
      obtain ⟨va', vc', rfl⟩ := owns_form hreb.own
      have hg10 : wr.frozen? ⟨g, i * 13 + 10, none⟩ = false := (World.frozen?_of_block (a := ⟨g, i * 13 + 10, none⟩) (hbl.block g hgc)).trans f10
      have hown := hreb.own
      have htk : m.queue.take k = m.queue := List.take_of_length_le (by rw [HQN.out]; exact Nat.le_refl _)
      have FIN := ModI.turned (f := 3) (M' := MR.of (m.disqualify e.team)) HM2.out HF2.out hiL (by omega) (wr := wr) ⟨hbl.os, hbl.tape, hbl.output, hbl.size, fun b hb _ => hbl.block b hb⟩ hown (fun b hb => Or.inr (hreb.up b hb)) (by
        rw [htk]
        exact Eq6_cases (fun _ => rfl) ⟨rfl, rfl, rfl, rfl, rfl, rfl⟩ ⟨rfl, rfl, rfl, rfl, rfl, rfl⟩)
      have HFIN : Hid _ := FIN
      clear FIN hown hreb hbl hrd HREB hlt hk htk c10 c8 t3
      generalize ((m.queue.take k).filter fun i => !eqS (subAt m.subs i).team e.team).length = cn at HFIN
      go_wp2
      go_ret2
      exact ModI.fin HFIN.out HFA.out HL.out hiL HST.out HRF.out (by
        have : m.step e = m.disqualify e.team := by unfold PLed.step; simp [HKD.out]
        rw [this]
        exact MR.Eq6.refl _) (refB_not (by rw [HKD.out]; decide)).symm
end Go.Proofs.Qxb6616853aFmt
