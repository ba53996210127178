import Derived.Test.Qxb6616853aFmtMq
import Derived.Deep.RegionWith
import Derived.Deep.RegionHeld3
import Derived.BigQuiet
namespace Go.Proofs.Qxb6616853aFmt
open Go.RowKit
attribute [local go_sem ↓] Go.wp_at_zero Go.wp_at_succ

theorem step2_eq6 (m : PLed) (e : PEv) (r tj : Bool) (sn : Nat) (fo : Bool) (hk : e.kind = 2) (hsn : sn = m.subs.length) (hfo : fo = e.force) (hr : r = memK m.solved e.team e.task) (htj : (fo || !r) = tj) :
    ({ MR.of (pushM m tj) with k := put1 (MR.of (pushM m tj)).k 1 (sn + 1), c := put1 (MR.of (pushM m tj)).c 1 (asubs m.subs ++ [Value.int .i64 ((sn : Int) + 1), Value.string e.team, Value.string e.tid, Value.int .i64 e.task, Value.string e.comp, Value.int .i64 e.off, Value.int .i64 e.size, Value.int .i64 (minsOf e.at_ m.st), Value.bool (if fo then !r else true)]) } : MR).Eq6 (MR.of (m.step e)) := by
  have hst : m.step e = m.submit e := by unfold PLed.step; simp [hk]
  have hns : asubC m.subs.length (m.newSub e) = [Value.int .i64 ((sn : Int) + 1), Value.string e.team, Value.string e.tid, Value.int .i64 e.task, Value.string e.comp, Value.int .i64 e.off, Value.int .i64 e.size, Value.int .i64 (minsOf e.at_ m.st), Value.bool (if fo then !r else true)] := by
    unfold asubC PLed.newSub
    rw [← hsn, ← hfo, ← hr]
    cases fo <;> rfl
  have hqe : (pushM m tj).queue = (m.submit e).queue := by
    unfold pushM PLed.submit
    rw [← htj, hfo, hr]
  rw [hst]
  refine Eq6_cases (fun _ => rfl) ⟨rfl, ?_, rfl, ?_, rfl, rfl⟩ ⟨rfl, ?_, rfl, ?_, rfl, rfl⟩
  · show sn + 1 = (m.subs ++ [m.newSub e]).length
    rw [hsn, List.length_append]
    rfl
  · show (pushM m tj).queue.length = (m.submit e).queue.length
    rw [hqe]
  · show asubs m.subs ++ _ = asubs (m.subs ++ [m.newSub e])
    rw [asubs_append, hns]
  · show (pushM m tj).queue.map idV = (m.submit e).queue.map idV
    rw [hqe]

set_option maxRecDepth 100000 in
set_option maxHeartbeats 4000000 in
theorem step_k2 (w : World) (v : Value) (Ls : List PLed) (x : Nat → Nat → Value) (N : Nat) (e : PEv) (vt vn vm vb : Value) (h : IsMod w v Ls x) (hok : AllOk Ls N) (hN : N < 4096) (he : e.Ok) (hbt : IsBytes w vt e.tid ∧ ∀ b, foot v Ls.length x b → ∀ a l c, l ≠ 0 → vt ≠ .slice (some ⟨b, a, none⟩) l c) (hkd : e.kind = 2) :
    Calls Tryf.prog 8 #[v, .agg (evA e vt vn vm vb)] w (StepPost w (foot v Ls.length x) (stepAll Ls e) (refAll Ls e)) := by
  obtain ⟨ta, tl, tc, rfl⟩ := hbt.1.form
  have HBT : Hid _ := hbt
  clear hbt
  have HKD : Hid _ := hkd
  clear hkd
  obtain ⟨va, vc, hv⟩ := owns_form h.row
  obtain ⟨F, hF⟩ : ∃ F, F = foot v Ls.length x := ⟨_, rfl⟩
  rw [← hF]
  obtain ⟨W, hW⟩ : ∃ W, W = w.alloc (.cells (evA e (.slice ta tl tc) vn vm vb) 32) := ⟨_, rfl⟩
  have hWb : Below w.heap.size w W := by rw [hW]; exact (Below.refl _ _).alloc (Nat.le_refl _) _
  have hWz : W.heap.size = w.heap.size + 1 := by rw [hW]; simp
  have hEW : Blk W w.heap.size (evA e (.slice ta tl tc) vn vm vb) 32 := by rw [hW]; exact Blk.new _ _ _
  have hMW : IsMod W v Ls x := ModAt.below h hWb
  have hnE : ¬ F w.heap.size := fun hf => absurd (h.foot_lt (by rw [hF] at hf; exact hf)) (by omega)
  have hWF : Framed w (F) W (F) := Framed.ofBelow hWb (Nat.le_refl _)
  have hn4 : Ls.length < 4096 := Nat.lt_of_le_of_lt hok.2.2 hN
  obtain ⟨n, hn⟩ : ∃ n, n = Ls.length := ⟨_, rfl⟩
  have hq : ∀ i, i < n → ∃ g, va = some ⟨g, 0, none⟩ ∧ W.cell? ⟨g, i * 13, none⟩ = some (.string (ledAt Ls i).name) := fun i hi => by
    rcases hMW.row.form (by omega) with ⟨g, cap, hv', _⟩
    rw [hv] at hv'
    cases hv'
    refine ⟨g, rfl, ?_⟩
    have hc := hMW
    rw [hv] at hc
    exact hc.cell (i := i) (p := 0) (by omega) (by omega)
  have e1 : W.cell? ⟨w.heap.size, 1, none⟩ = some (.string e.oly) := hEW.cell 1
  have hownv : ∀ wr o, Quiet W wr → (wr.alloc o).ownsRow 0 43 13 (.slice va n vc) n (rows n fun i => mrC (MR.of (ledAt Ls i)) (x i)) := fun wr o hq' => by
    have := hMW.row
    rw [hv] at this
    rw [hn]
    have h2 : wr.ownsRow 0 43 13 (.slice va Ls.length vc) Ls.length (rows Ls.length fun i => mrC (MR.of (ledAt Ls i)) (x i)) := owns_of_block this (fun k _ => by rw [hq'.heap])
    exact h2.alloc o
  have HMW : Hid (IsMod W v Ls x) := hMW
  have HEW : Hid (Blk W w.heap.size (evA e (.slice ta tl tc) vn vm vb) 32) := hEW
  have HW : Hid (W = w.alloc (.cells (evA e (.slice ta tl tc) vn vm vb) 32)) := hW
  have HWF : Hid (Framed w (F) W (F)) := hWF
  have HWB : Hid (Below w.heap.size w W) := hWb
  have HWZ : Hid (W.heap.size = w.heap.size + 1) := hWz
  have HNE : Hid (¬ F w.heap.size) := hnE
  have HV : Hid (v = .slice va Ls.length vc) := hv
  have HF : Hid (F = foot v Ls.length x) := hF
  have HNL : Hid (n = Ls.length) := hn
  have HOK : Hid (AllOk Ls N) := hok
  have HE : Hid e.Ok := he
  have HOWN : Hid (∀ wr o, Quiet W wr → (wr.alloc o).ownsRow 0 43 13 (.slice va n vc) n (rows n fun i => mrC (MR.of (ledAt Ls i)) (x i))) := hownv
  have hnN : n < 4096 := by omega
  obtain ⟨i0, hi0, hz0, hz1, hz2⟩ := info_parts infoF43
  have hv2 : v = .slice va n vc := by rw [hn]; exact hv
  rw [hv2]
  clear hF hMW hEW hW hWF hWb hWz hnE hv hn hok he hv2 h hn4 hownv
  unfold evA at HW ⊢
  go_enter Tryf.func8, Tryf.ntmps8
  go_upto_region 1 with fail
  rw [← HW.out]
  clear HW
  go_upto_block 0 with fail
  go_cut [6, 7] from 17 to 31 (fun v6 v7 wx => ∃ z, v6 = .int .i64 z ∧ Quiet W wx ∧ Scan Ls e.oly z)
  case first =>
    go_wp2_with fail
    go_loopw [6, 7] (fun vi vj wr => ∃ k : Nat, k ≤ n ∧ vi = .int .i64 (-1) ∧ vj = .int .i64 k ∧ (∀ j, j < k → eqS (ledAt Ls j).name e.oly = false) ∧ Quiet W wr) (fun _ vj _ => n - (intOf vj).toNat)
    case atStart => exact ⟨0, Nat.zero_le _, rfl, rfl, fun j hj => absurd hj (Nat.not_lt_zero _), Quiet.refl _⟩
    case round =>
      obtain ⟨k, hk, rfl, rfl, hno, hqt⟩ := hrel
      have HNO : Hid (∀ j, j < k → eqS (ledAt Ls j).name e.oly = false) := hno
      have HQT : Hid (Quiet W wr) := hqt
      clear hno
      by_cases hlt : k < n
      · obtain ⟨g, rfl, hc1⟩ := hq k hlt
        rw [← hqt.cell] at hc1 e1
        clear hq hqt
        cases ha : eqS (ledAt Ls k).name e.oly
        · have ha1 : ((ledAt Ls k).name.toList == e.oly.toList) = false := ha
          have HA : Hid (eqS (ledAt Ls k).name e.oly = false) := ha
          clear ha
          go_wp2_with fail
          go_region
          go_wp2
          go_round
          case rel => exact ⟨k + 1, by omega, rfl, by go_num, fun j hj => by
            by_cases hjk : j = k
            · subst hjk
              exact HA.out
            · exact HNO.out j (by omega), HQT.out.trans ⟨rfl, rfl, rfl, rfl⟩⟩
          case measure => simp [intOf]; omega
        · have ha1 : ((ledAt Ls k).name.toList == e.oly.toList) = true := ha
          have HA : Hid (eqS (ledAt Ls k).name e.oly = true) := ha
          clear ha
          go_wp2_with fail
          go_region
          go_wp2
          go_meet
          exact ⟨k, rfl, HQT.out.trans ⟨rfl, rfl, rfl, rfl⟩, Or.inl ⟨k, rfl, by rw [← HNL.out]; exact hlt, HNO.out, HA.out⟩⟩
      · obtain rfl : k = n := by omega
        clear hq hlt hk hqt
        go_wp2
        go_meet
        exact ⟨-1, rfl, HQT.out, Or.inr ⟨rfl, by rw [← HNL.out]; exact HNO.out⟩⟩
  case rest =>
  rename World => wr
  obtain ⟨z, rfl, hqt, hsc⟩ := hcut
  have HQT : Hid (Quiet W wr) := hqt
  have HSC : Hid (Scan Ls e.oly z) := hsc
  rw [← hqt.cell] at e1
  clear hq hqt hsc
  go_upto_if 33 with fail
  go_cut [0, 6] from 32 to 42 (fun v0 v6 wx => Mid W (F) Ls e.oly v0 v6 wx)
  case first =>
    by_cases hz : z < 0
    · have hno : ∀ j, j < Ls.length → eqS (ledAt Ls j).name e.oly = false := by
        rcases HSC.out with ⟨k, rfl, _⟩ | ⟨_, h2⟩
        · omega
        · exact h2
      have HNO : Hid (∀ j, j < Ls.length → eqS (ledAt Ls j).name e.oly = false) := hno
      clear hno
      go_wp2_with (at_builtin; refine wpList_append_lies _ rfl (.tmp 34) (.tmp 38) 28 rfl 0 43 i0 _ 13 200 Tryf.underlying28 hi0 hz0 hz1 hz2 rfl (by omega) (.slice va n vc) n (rows n fun i => mrC (MR.of (ledAt Ls i)) (x i)) rfl (HOWN.out _ _ HQT.out) ⟨wr.heap.size, 0, none⟩ 1 1 (mrC (MR.fresh e.oly) (fun _ => .slice none 0 0)) rfl rfl (World.news_of_block (heap_alloc_new wr _)) (by simp [Value.oneCell', mrC]) (by omega) (by unfold maxLen; omega) (by omega) (Nat.zero_le _) (wr.heap.size + 1) (by simp) ?_; intro g cap w4 hown4 hgr4 hat4 hlt4)
      go_meet
      have := Mid.pushed (H := wr.heap.size + 1) (g := g) (cap := cap) (w1 := w4) HMW.out HQT.out HNO.out (by rw [← HNL.out]; exact hown4) (by rw [HV.out, ← HNL.out]; exact hgr4) (by rw [HV.out, ← HNL.out]; exact hat4) rfl
      rw [← HF.out, ← HNL.out] at this
      exact this
    · go_wp2
      go_meet
      rcases HSC.out with ⟨k, rfl, h1, h2, h3⟩ | ⟨h1, _⟩
      · have := Mid.found HMW.out HQT.out h1 h2 h3
        rw [← HF.out, HV.out, ← HNL.out] at this
        exact this
      · omega
  case rest =>
    rename World => wa
    obtain ⟨g, cap, i, x1, rfl, rfl, hi, hmid, hfr⟩ := hcut
    clear HOWN HNL HMW HSC HQT HV
    have hiL : i < (withL Ls e.oly).length := by rw [hi]; exact placeOf_lt _ _
    have hLl : (withL Ls e.oly).length ≤ Ls.length + 1 := withL_length_le _ _
    obtain ⟨l, hl⟩ : ∃ l, l = (withL Ls e.oly).length := ⟨_, rfl⟩
    rw [← hl] at hiL
    have hl4 : l ≤ 4096 := by have := HOK.out.2.2; omega
    have HL : Hid (l = (withL Ls e.oly).length) := hl
    have hmok : (ledAt (withL Ls e.oly) i).Ok N := HOK.out.withL HE.out.oly _ (ledAt_mem (by rw [← hl]; exact hiL))
    obtain ⟨m, hm⟩ : ∃ m, m = ledAt (withL Ls e.oly) i := ⟨_, rfl⟩
    rw [← hm] at hmok
    have HMEQ : Hid (m = ledAt (withL Ls e.oly) i) := hm
    have HMOK : Hid (m.Ok N) := hmok
    have hEa : Blk wa w.heap.size #[.int .i64 e.kind, .string e.oly, .int .i64 e.at_, .string e.team, .slice ta tl tc, .int .i64 e.task, .string e.comp, .bool e.force, .int .i64 e.sub, .int .i64 e.res, vn, vm, .int .i64 e.left, .bool e.frozen, vb, .int .i64 e.off, .int .i64 e.size] 32 := (hfr.block _ (by rw [HWZ.out]; omega) HNE.out).trans HEW.out
    have HEA : Hid (Blk wa w.heap.size #[.int .i64 e.kind, .string e.oly, .int .i64 e.at_, .string e.team, .slice ta tl tc, .int .i64 e.task, .string e.comp, .bool e.force, .int .i64 e.sub, .int .i64 e.res, vn, vm, .int .i64 e.left, .bool e.frozen, vb, .int .i64 e.off, .int .i64 e.size] 32) := hEa
    have hmid2 : ModAt wa (.slice (some ⟨g, 0, none⟩) l cap) l (fun i => MR.of (ledAt (withL Ls e.oly) i)) x1 := by rw [hl]; exact hmid
    have HMID : Hid (ModAt wa (.slice (some ⟨g, 0, none⟩) l cap) l (fun i => MR.of (ledAt (withL Ls e.oly) i)) x1) := hmid2
    have hFa : Framed w (F) wa (foot (.slice (some ⟨g, 0, none⟩) l cap) l x1) := by rw [hl]; exact HWF.out.trans hfr
    have HFA : Hid (Framed w (F) wa (foot (.slice (some ⟨g, 0, none⟩) l cap) l x1)) := hFa
    have hElt : w.heap.size < wa.heap.size := hEa.lt
    have HST : Hid (stepAll Ls e = (withL Ls e.oly).set i (m.step e)) := by rw [hm, hi]; rfl
    have HRF : Hid (refAll Ls e = m.refB e) := by rw [hm, hi]; rfl
    have hnotE : ¬ foot (.slice (some ⟨g, 0, none⟩) l cap) l x1 w.heap.size := fun hf => by
      rcases hfr.inside w.heap.size (by rw [← hl]; exact hf) with h1 | h1
      · exact HNE.out h1
      · have := HWZ.out
        omega
    have HNOTE : Hid (¬ foot (.slice (some ⟨g, 0, none⟩) l cap) l x1 w.heap.size) := hnotE
    have k0 : wa.cell? ⟨w.heap.size, 0, none⟩ = some (.int .i64 e.kind) := hEa.cell 0
    rw [← hl]
    clear hmid hmid2 hfr hl hm hi hEa hFa HWF HEW hmok hLl e1 hnN hnotE
    rw [HKD.out] at k0
    have a2 : wa.cell? ⟨w.heap.size, 2, none⟩ = some (.int .i64 e.at_) := HEA.out.cell 2
    have a3 : wa.cell? ⟨w.heap.size, 3, none⟩ = some (.string e.team) := HEA.out.cell 3
    have a5 : wa.cell? ⟨w.heap.size, 5, none⟩ = some (.int .i64 e.task) := HEA.out.cell 5
    obtain ⟨ka, kc, hvk⟩ := owns_form (HMID.out.own i 2 hiL (by omega))
    obtain ⟨kn, hkn⟩ : ∃ kn, kn = m.solved.length := ⟨_, rfl⟩
    have hvk' : x1 i 2 = .slice ka kn kc := by rw [hvk, hkn, HMEQ.out]; rfl
    have c9 : wa.cell? ⟨g, i * 13 + 9, none⟩ = some (.slice ka kn kc) := by rw [← hvk']; exact HMID.out.cell (p := 9) hiL (by omega)
    have c2 : wa.cell? ⟨g, i * 13 + 2, none⟩ = some (.int .i64 m.st) := by rw [HMEQ.out]; exact HMID.out.cell (p := 2) hiL (by omega)
    have hkm : kn < 4096 := by rw [hkn]; exact Nat.lt_of_le_of_lt HMOK.out.solved hN
    have hownk : wa.drew.ownsRow 0 68 2 (.slice ka kn kc) m.solved.length (keysC m.solved) := by
      have := HMID.out.own i 2 hiL (by omega)
      rw [hvk', ← HMEQ.out] at this
      exact this
    have hhas := hasKey_any wa.drew (.slice ka kn kc) m.solved e.team e.task hownk (by rw [← hkn]; omega)
    have hglt : g < wa.heap.size := (HMID.out.row.lt g rfl).2
    clear hvk hvk' hownk hkn
    go_upto_region 15 with fail
    go_cut [9] from 57 to 66 (fun v9 wx => ∃ r, v9 = .bool r ∧ r = memK m.solved e.team e.task ∧ Below wa.heap.size wa wx)
    case first =>
      go_region_with (go_at_call 13; refine hhas.mono ?_; rintro e1 wb ⟨r, rfl, hr, hbel⟩)
      all_goals (go_wp2_with fail)
      all_goals go_meet
      all_goals exact ⟨_, rfl, rfl, ⟨hbel.os, hbel.tape, hbel.output, hbel.size, hbel.block⟩⟩
    case rest =>
    rename World => wb
    obtain ⟨r, rfl, hr, hbel⟩ := hcut
    have HRR : Hid (r = memK m.solved e.team e.task) := hr
    have b2 : wb.cell? ⟨w.heap.size, 2, none⟩ = some (.int .i64 e.at_) := (hbel.cell (p := ⟨w.heap.size, 2, none⟩) hElt).trans a2
    have d2 : wb.cell? ⟨g, i * 13 + 2, none⟩ = some (.int .i64 m.st) := (hbel.cell (p := ⟨g, i * 13 + 2, none⟩) hglt).trans c2
    have hsat := satSub_any wb.drew e.at_ m.st HE.out.at_ HMOK.out.st
    have HB1 : Hid (Below wa.heap.size wa wb) := hbel
    clear hr hbel hhas a2 a3 a5 c9 c2
    go_upto_region 16 with fail
    go_cut [10] from 67 to 74 (fun v10 wx => ∃ z : Int, v10 = .int .i64 z ∧ z = (clamp (e.at_ - m.st)).tdiv 60000000000 ∧ Below wa.heap.size wa wx)
    case first =>
      go_region_with (go_at_call 14; refine hsat.mono ?_; rintro e1 wy ⟨z, rfl, hz, rfl⟩)
      all_goals (go_wp2_with fail)
      all_goals go_meet
      all_goals exact ⟨_, rfl, clamp_quo _, HB1.out.trans ⟨rfl, rfl, rfl, Nat.le_refl _, fun _ _ => rfl⟩⟩
    case rest =>
    rename World => wc
    obtain ⟨z, rfl, hz, hbel⟩ := hcut
    have HZ : Hid (z = (clamp (e.at_ - m.st)).tdiv 60000000000) := hz
    have HB2 : Hid (Below wa.heap.size wa wc) := hbel
    clear HB1 hz hbel hsat b2 d2
    go_upto_if 76 with fail
    go_cut [10] from 75 to 76 (fun v10 wx => v10 = .int .i64 (minsOf e.at_ m.st) ∧ wx = wc)
    case first =>
      by_cases hz : z < 0
      · go_wp2
        go_meet
        refine ⟨?_, rfl⟩
        unfold minsOf
        rw [if_pos (by rw [← HZ.out]; exact hz)]
      · go_wp2
        go_meet
        refine ⟨?_, rfl⟩
        unfold minsOf
        rw [if_neg (by rw [← HZ.out]; omega), HZ.out]
    case rest =>
    obtain ⟨rfl, rfl⟩ := hcut
    clear HZ
    rename World => wc
    have hMc := HMID.out.below HB2.out
    obtain ⟨sa, sc, hvs⟩ := owns_form (HMID.out.own i 1 hiL (by omega))
    obtain ⟨sn, hsn⟩ : ∃ sn, sn = m.subs.length := ⟨_, rfl⟩
    have hvs' : x1 i 1 = .slice sa sn sc := by rw [hvs, hsn, HMEQ.out]; rfl
    have hsm : sn < 4096 := by rw [hsn]; exact Nat.lt_of_le_of_lt HMOK.out.subs hN
    have s8 : wc.cell? ⟨g, i * 13 + 8, none⟩ = some (.slice sa sn sc) := by rw [← hvs']; exact hMc.cell (p := 8) hiL (by omega)
    obtain ⟨fo, hfo⟩ : ∃ fo, fo = e.force := ⟨_, rfl⟩
    have HFO : Hid (fo = e.force) := hfo
    have e7 : wc.cell? ⟨w.heap.size, 7, none⟩ = some (.bool fo) := by rw [hfo]; exact (HEA.out.below HB2.out hElt).cell 7
    clear hfo
    obtain ⟨qa, qc, hvq⟩ := owns_form (HMID.out.own i 3 hiL (by omega))
    obtain ⟨qn, hqn⟩ : ∃ qn, qn = m.queue.length := ⟨_, rfl⟩
    have hvq' : x1 i 3 = .slice qa qn qc := by rw [hvq, hqn, HMEQ.out]; rfl
    have hqm : qn < 4096 := by rw [hqn]; exact Nat.lt_of_le_of_lt HMOK.out.queue hN
    have s10 : wc.cell? ⟨g, i * 13 + 10, none⟩ = some (.slice qa qn qc) := by rw [← hvq']; exact hMc.cell (p := 10) hiL (by omega)
    have HVS : Hid (x1 i 1 = .slice sa sn sc) := hvs'
    have HSN : Hid (sn = m.subs.length) := hsn
    have HVQ : Hid (x1 i 3 = .slice qa qn qc) := hvq'
    have HQN : Hid (qn = m.queue.length) := hqn
    have HMC : Hid (ModAt wc (.slice (some ⟨g, 0, none⟩) l cap) l (fun i => MR.of (ledAt (withL Ls e.oly) i)) x1) := hMc
    have hgc : g < wc.heap.size := (hMc.row.lt g rfl).2
    clear hMc hvs hvs' hsn hvq hvq' hqn hglt
    go_upto_region 20 with fail
    go_cut [88] from 83 to 87 (fun v88 wx => v88 = .bool (fo || !r) ∧ wx = wc)
    case first =>
      cases fo
      · cases r
        all_goals (go_wp2; go_meet; exact ⟨rfl, rfl⟩)
      · go_wp2
        go_meet
        exact ⟨rfl, rfl⟩
    case rest =>
    obtain ⟨rfl, rfl⟩ := hcut
    rename World => wc
    clear e7
    go_upto_if 88 with fail
    generalize htj : (fo || !r) = tj
    have HTJ : Hid ((fo || !r) = tj) := htj
    clear htj
    go_cut [] from 88 to 98 (fun wx => ModI wa (foot (.slice (some ⟨g, 0, none⟩) l cap) l x1) (.slice (some ⟨g, 0, none⟩) l cap) l (fun i => MR.of (ledAt (withL Ls e.oly) i)) i (MR.of (pushM m tj)) wx)
    case first =>
      cases tj
      · have hM1 := ModI.start (i := i) (M := MR.of (pushM m false)) HMID.out (by
          rw [← HMEQ.out]
          exact MR.Eq6.refl _) HB2.out
        have HM1 : Hid _ := hM1
        clear hM1
        go_wp2
        go_meet
        exact HM1.out
      · have hownq : ∀ o, (wc.alloc o).ownsRow 0 3 1 (.slice qa qn qc) qn (m.queue.map idV) := fun o => by
          have := HMC.out.own i 3 hiL (by omega)
          rw [HVQ.out, ← HMEQ.out] at this
          have h1 : wc.ownsRow 0 3 1 (.slice qa qn qc) qn (m.queue.map idV) := by rw [HQN.out] at this ⊢; exact this
          exact h1.alloc o
        have hgq : (Value.slice qa qn qc).ownBlock ≠ some g := fun hb => by
          rw [← HVQ.out] at hb
          exact HMC.out.inner hiL (by omega) hb rfl
        have HKP : Hid (∀ o w', (wc.alloc o).grownBy w' (Value.slice qa qn qc).ownBlock → w'.cell? ⟨g, i * 13 + 10, none⟩ = some (.slice qa qn qc) ∧ w'.frozen? ⟨g, i * 13 + 10, none⟩ = false) := fun o w' hgr => by
          have hbk : w'.heap[g]? = wc.heap[g]? := (hgr.block g (by simp; omega) (fun e => hgq e.symm)).trans (Below.heap_alloc _ _ _ hgc)
          exact ⟨(World.cell?_of_block (a := ⟨g, i * 13 + 10, none⟩) hbk).trans s10, (World.frozen?_of_block (a := ⟨g, i * 13 + 10, none⟩) hbk).trans (HMC.out.frozen _)⟩
        obtain ⟨j3, hj0, hy0, hy1, hy2⟩ := info_parts infoF3
        clear hgq
        go_wp2_with (at_builtin; refine wpList_append_lies _ rfl (.tmp 93) (.tmp 95) 41 rfl 0 3 j3 _ 1 8 Tryf.underlying41 hj0 hy0 hy1 hy2 rfl (by omega) (.slice qa qn qc) qn (m.queue.map idV) rfl (hownq _) ⟨wc.heap.size, 0, none⟩ 1 1 [.int .i64 ((sn : Int) + 1)] rfl rfl (World.news_of_block (heap_alloc_new wc _)) (by simp [Value.oneCell']) (by omega) (by unfold maxLen; omega) (by omega) (Nat.zero_le _) (wc.heap.size + 1) (by simp) ?_; intro g4 cap4 w4 hown4 hgr4 hat4 hlt4; obtain ⟨q1, f1⟩ := HKP.out _ _ hgr4)
        go_meet
        refine ModI.turned (f := 3) (M := MR.of m) (x := x1) (k' := qn + 1) (c' := m.queue.map idV ++ [Value.int .i64 ((sn : Int) + 1)]) (MR.put_self _ i HMC.out (by rw [HMEQ.out]; exact MR.Eq6.refl _)) (Framed.ofBelow HB2.out (Nat.le_refl _)) hiL (by omega) (by rw [HVQ.out]; exact grown_of_alloc hgr4) hown4 (fun b hb => ?_) ?_
        · obtain rfl : g4 = b := by simpa [Value.ownBlock] using hb
          rw [HVQ.out]
          rcases hat4 with h1 | h1
          · exact Or.inl h1
          · exact Or.inr (by omega)
        · refine Eq6_cases (fun _ => rfl) ⟨rfl, rfl, rfl, ?_, rfl, rfl⟩ ⟨rfl, rfl, rfl, ?_, rfl, rfl⟩
          · show qn + 1 = (m.queue ++ [m.subs.length]).length
            rw [HQN.out, List.length_append]
            rfl
          · show m.queue.map idV ++ [Value.int .i64 ((sn : Int) + 1)] = (m.queue ++ [m.subs.length]).map idV
            rw [List.map_append, HSN.out]
            rfl
    case rest =>
    rename World => wd
    have HMI : Hid (ModI wa (foot (.slice (some ⟨g, 0, none⟩) l cap) l x1) (.slice (some ⟨g, 0, none⟩) l cap) l (fun i => MR.of (ledAt (withL Ls e.oly) i)) i (MR.of (pushM m tj)) wd) := hcut
    clear hcut s8 s10 HVS HVQ HQN hqm HB2 HMC hgc
    obtain ⟨x2, hm2, hf2⟩ := HMI.out
    have t3 : wd.cell? ⟨w.heap.size, 3, none⟩ = some (.string e.team) := (HMI.out.block HNOTE.out HEA.out).cell 3
    have t4 : wd.cell? ⟨w.heap.size, 4, none⟩ = some (.slice ta tl tc) := (HMI.out.block HNOTE.out HEA.out).cell 4
    have t5 : wd.cell? ⟨w.heap.size, 5, none⟩ = some (.int .i64 e.task) := (HMI.out.block HNOTE.out HEA.out).cell 5
    have t6 : wd.cell? ⟨w.heap.size, 6, none⟩ = some (.string e.comp) := (HMI.out.block HNOTE.out HEA.out).cell 6
    have t15 : wd.cell? ⟨w.heap.size, 15, none⟩ = some (.int .i64 e.off) := (HMI.out.block HNOTE.out HEA.out).cell 15
    have t16 : wd.cell? ⟨w.heap.size, 16, none⟩ = some (.int .i64 e.size) := (HMI.out.block HNOTE.out HEA.out).cell 16
    have t7 : wd.cell? ⟨w.heap.size, 7, none⟩ = some (.bool fo) := by rw [HFO.out]; exact (HMI.out.block HNOTE.out HEA.out).cell 7
    obtain ⟨FX, hFX⟩ : ∃ FX, FX = foot (.slice (some ⟨g, 0, none⟩) l cap) l x2 := ⟨_, rfl⟩
    have hnX : ¬ FX w.heap.size := fun hf => by
      rw [hFX] at hf
      rcases hf2.inside _ hf with h1 | h1
      · exact HNOTE.out h1
      · omega
    have hXg : FX g := by rw [hFX]; exact Or.inl rfl
    have hEd : w.heap.size < wd.heap.size := (HMI.out.block HNOTE.out HEA.out).lt
    obtain ⟨sa', sc', hvs⟩ := owns_form (hm2.own i 1 hiL (by omega))
    rw [put1_same] at hvs
    have hvs' : x2 i 1 = .slice sa' sn sc' := by rw [hvs, HSN.out]; rfl
    have s8 : wd.cell? ⟨g, i * 13 + 8, none⟩ = some (.slice sa' sn sc') := by rw [← hvs']; exact hm2.cell (p := 8) hiL (by omega)
    have hgd : g < wd.heap.size := (hm2.row.lt g rfl).2
    have hgs : (Value.slice sa' sn sc').ownBlock ≠ some g := fun hb => by
      rw [← hvs'] at hb
      exact hm2.inner hiL (by omega) hb rfl
    have hownS : ∀ o, (wd.alloc o).drew.ownsRow 0 71 9 (.slice sa' sn sc') sn (asubs m.subs) := fun o => by
      have := hm2.own i 1 hiL (by omega)
      rw [hvs', put1_same] at this
      have h1 : wd.ownsRow 0 71 9 (.slice sa' sn sc') sn (asubs m.subs) := by rw [HSN.out] at this ⊢; exact this
      exact (h1.alloc o).drew
    have HKP : Hid (∀ o w', (wd.alloc o).drew.grownBy w' (Value.slice sa' sn sc').ownBlock → w'.cell? ⟨g, i * 13 + 8, none⟩ = some (.slice sa' sn sc') ∧ w'.frozen? ⟨g, i * 13 + 8, none⟩ = false) := fun o w' hgr => by
      have hbk : w'.heap[g]? = wd.heap[g]? := (hgr.block g (by simp; omega) (fun e => hgs e.symm)).trans (Below.heap_alloc _ _ _ hgd)
      exact ⟨(World.cell?_of_block (a := ⟨g, i * 13 + 8, none⟩) hbk).trans s8, (World.frozen?_of_block (a := ⟨g, i * 13 + 8, none⟩) hbk).trans (hm2.frozen _)⟩
    have HOWNS : Hid _ := hownS
    have HM2 : Hid _ := hm2
    have HF2 : Hid _ := hf2
    have HVS : Hid (x2 i 1 = .slice sa' sn sc') := hvs'
    have HFD : Hid (Framed wd FX wd.drew FX) := ⟨rfl, rfl, rfl, Nat.le_refl _, fun _ _ _ => rfl, fun _ hb => Or.inl hb⟩
    have HFAL : Hid (∀ o, Framed wd FX (wd.alloc o).drew FX) := fun o => ⟨rfl, rfl, rfl, by show wd.heap.size ≤ (wd.alloc o).heap.size; simp, fun b hb _ => Below.heap_alloc _ _ _ hb, fun _ hb => Or.inl hb⟩
    have hXs : ∀ b, (Value.slice sa' sn sc').ownBlock = some b → FX b := fun b hb => by
      rw [hFX]
      exact Or.inr ⟨i, 1, hiL, by omega, by rw [hvs']; exact hb⟩
    have HGR : Hid (∀ o w', (wd.alloc o).drew.grownBy w' (Value.slice sa' sn sc').ownBlock → Framed wd FX w' FX) := fun o w' hgr => by
      have h2 : wd.heap.size ≤ (wd.alloc o).drew.heap.size := by show wd.heap.size ≤ (wd.alloc o).heap.size; simp
      exact ⟨hgr.os, hgr.tape, hgr.output, Nat.le_trans h2 hgr.size, fun b hb hn => (hgr.block b (Nat.lt_of_lt_of_le hb h2) (fun e => hn (hXs b e.symm))).trans (Below.heap_alloc _ _ _ hb), fun _ hb => Or.inl hb⟩
    have HST4 : Hid (∀ w' u, Framed wd FX w' FX → Framed wd FX (w'.setCell ⟨g, i * 13 + 8, none⟩ u) FX) := fun w' u hfw => ⟨hfw.os, hfw.tape, hfw.output, by simpa using hfw.size, fun b hb hn => (Below.heap_setCell _ _ _ _ (fun e => hn (by rw [e]; exact hXg))).trans (hfw.block b hb hn), fun _ hb => Or.inl hb⟩
    have HBYW : Hid (∀ w', Framed wd FX w' FX → IsBytes w' (.slice ta tl tc) e.tid) := fun w' hfw => by
      refine IsBytes.framed (F' := FX) HBT.out.1 ((HFA.out.trans (by rw [← hFX] at hf2; exact hf2)).trans hfw) (fun b hb => ?_)
      rw [HF.out] at hb
      exact HBT.out.2 b hb
    obtain ⟨j1, hj0, hy0, hy1, hy2⟩ := info_parts infoF71
    clear hm2 hf2 hvs hvs' hgs hownS hFX hXs hXg
    go_upto_region 22 with fail
    cases fo
    · skip
      have HMK : Hid (∀ w', Framed wd FX w' FX → w'.cell? ⟨w.heap.size, 3, none⟩ = some (.string e.team) ∧ w'.cell? ⟨w.heap.size, 4, none⟩ = some (.slice ta tl tc) ∧ w'.cell? ⟨w.heap.size, 5, none⟩ = some (.int .i64 e.task) ∧ w'.cell? ⟨w.heap.size, 6, none⟩ = some (.string e.comp) ∧ w'.cell? ⟨w.heap.size, 7, none⟩ = some (.bool false) ∧ w'.cell? ⟨w.heap.size, 15, none⟩ = some (.int .i64 e.off) ∧ w'.cell? ⟨w.heap.size, 16, none⟩ = some (.int .i64 e.size) ∧ (convert 30 9 (.slice ta tl tc)).run Tryf.prog w' = .ok (.string e.tid) w') := by
        intro w' hfw
        have hE := (hfw.block _ hEd hnX)
        exact ⟨(World.cell?_of_block (a := ⟨w.heap.size, 3, none⟩) hE).trans t3, (World.cell?_of_block (a := ⟨w.heap.size, 4, none⟩) hE).trans t4, (World.cell?_of_block (a := ⟨w.heap.size, 5, none⟩) hE).trans t5, (World.cell?_of_block (a := ⟨w.heap.size, 6, none⟩) hE).trans t6, (World.cell?_of_block (a := ⟨w.heap.size, 7, none⟩) hE).trans t7, (World.cell?_of_block (a := ⟨w.heap.size, 15, none⟩) hE).trans t15, (World.cell?_of_block (a := ⟨w.heap.size, 16, none⟩) hE).trans t16, (HBYW.out _ hfw).conv⟩
      clear t3 t4 t5 t6 t7 t15 t16
      refine wp_region_noPanic ?_
      refine wp_region_held_drew (S := (fun w' => w'.cell? ⟨w.heap.size, 3, none⟩ = some (.string e.team) ∧ w'.cell? ⟨w.heap.size, 4, none⟩ = some (.slice ta tl tc) ∧ w'.cell? ⟨w.heap.size, 5, none⟩ = some (.int .i64 e.task) ∧ w'.cell? ⟨w.heap.size, 6, none⟩ = some (.string e.comp) ∧ w'.cell? ⟨w.heap.size, 7, none⟩ = some (.bool false) ∧ w'.cell? ⟨w.heap.size, 15, none⟩ = some (.int .i64 e.off) ∧ w'.cell? ⟨w.heap.size, 16, none⟩ = some (.int .i64 e.size) ∧ (convert 30 9 (.slice ta tl tc)).run Tryf.prog w' = .ok (.string e.tid) w')) (by kernel_rfl) (HMK.out _ HFD.out) (fun hHeld => ?_)
      refine wpAnyH_take (i := 0) (oi := ⟨some 99, Op.move (Operand.tmp 8), 37, _, _, none⟩) (v := ?v0b) rfl (by kernel_rfl) (by kernel_rfl) (by kernel_rfl) (fun _ _ _ h => h) (Or.inl ⟨by rfl, ?hy0b⟩) (by assumption) ?r0b
      case hy0b =>
        intro w hSw
        try dsimp only at hSw
        go_simp
        try with_reducible rfl
      simp only [Act.put, List.setIfInBounds_toArray, List.set_cons_zero, List.set_cons_succ]
      refine wpAnyH_take (i := 1) (oi := ⟨some 100, Op.move (Operand.tmp 8), 37, _, _, none⟩) (v := ?v1b) rfl (by kernel_rfl) (by kernel_rfl) (by kernel_rfl) (fun _ _ _ h => h) (Or.inl ⟨by rfl, ?hy1b⟩) (by assumption) ?r1b
      case hy1b =>
        intro w hSw
        try dsimp only at hSw
        go_simp
        try with_reducible rfl
      simp only [Act.put, List.setIfInBounds_toArray, List.set_cons_zero, List.set_cons_succ]
      refine wpAnyH_take (i := 2) (oi := ⟨some 101, Op.nilCheck (Operand.tmp 100), 0, _, _, none⟩) (v := ?v2b) rfl (by kernel_rfl) (by kernel_rfl) (by kernel_rfl) (fun _ _ _ h => h) (Or.inl ⟨by rfl, ?hy2b⟩) (by assumption) ?r2b
      case hy2b =>
        intro w hSw
        try dsimp only at hSw
        go_simp
        try with_reducible rfl
      simp only [Act.put, List.setIfInBounds_toArray, List.set_cons_zero, List.set_cons_succ]
      refine wpAnyH_take (i := 3) (oi := ⟨some 102, Op.fieldAddr 43 (Operand.tmp 101) 8, 0, _, _, none⟩) (v := ?v3b) rfl (by kernel_rfl) (by kernel_rfl) (by kernel_rfl) (fun _ _ _ h => h) (Or.inl ⟨by rfl, ?hy3b⟩) (by assumption) ?r3b
      case hy3b =>
        intro w hSw
        try dsimp only at hSw
        go_simp
        try with_reducible rfl
      simp only [Act.put, List.setIfInBounds_toArray, List.set_cons_zero, List.set_cons_succ]
      refine wpAnyH_take (i := 5) (oi := ⟨some 104, Op.move (Operand.tmp 11), 3, _, _, none⟩) (v := ?v5b) rfl (by kernel_rfl) (by kernel_rfl) (by kernel_rfl) (fun _ _ _ h => h) (Or.inl ⟨by rfl, ?hy5b⟩) (by assumption) ?r5b
      case hy5b =>
        intro w hSw
        try dsimp only at hSw
        go_simp
        try with_reducible rfl
      simp only [Act.put, List.setIfInBounds_toArray, List.set_cons_zero, List.set_cons_succ]
      refine wpAnyH_take (i := 6) (oi := ⟨some 105, Op.fieldAddr 32 (Operand.tmp 3) 3, 0, _, _, none⟩) (v := ?v6b) rfl (by kernel_rfl) (by kernel_rfl) (by kernel_rfl) (fun _ _ _ h => h) (Or.inl ⟨by rfl, ?hy6b⟩) (by assumption) ?r6b
      case hy6b =>
        intro w hSw
        try dsimp only at hSw
        go_simp
        try with_reducible rfl
      simp only [Act.put, List.setIfInBounds_toArray, List.set_cons_zero, List.set_cons_succ]
      refine wpAnyH_take (i := 7) (oi := ⟨some 106, Op.load 9 (Operand.tmp 105), 9, _, _, none⟩) (v := ?v7b) rfl (by kernel_rfl) (by kernel_rfl) (by kernel_rfl) (fun _ _ _ h => h) (Or.inl ⟨by rfl, ?hy7b⟩) (by assumption) ?r7b
      case hy7b =>
        intro w hSw
        try dsimp only at hSw
        go_simp
        try with_reducible rfl
      simp only [Act.put, List.setIfInBounds_toArray, List.set_cons_zero, List.set_cons_succ]
      refine wpAnyH_take (i := 8) (oi := ⟨some 107, Op.fieldAddr 32 (Operand.tmp 3) 4, 0, _, _, none⟩) (v := ?v8b) rfl (by kernel_rfl) (by kernel_rfl) (by kernel_rfl) (fun _ _ _ h => h) (Or.inl ⟨by rfl, ?hy8b⟩) (by assumption) ?r8b
      case hy8b =>
        intro w hSw
        try dsimp only at hSw
        go_simp
        try with_reducible rfl
      simp only [Act.put, List.setIfInBounds_toArray, List.set_cons_zero, List.set_cons_succ]
      refine wpAnyH_take (i := 9) (oi := ⟨some 108, Op.load 30 (Operand.tmp 107), 30, _, _, none⟩) (v := ?v9b) rfl (by kernel_rfl) (by kernel_rfl) (by kernel_rfl) (fun _ _ _ h => h) (Or.inl ⟨by rfl, ?hy9b⟩) (by assumption) ?r9b
      case hy9b =>
        intro w hSw
        try dsimp only at hSw
        go_simp
        try with_reducible rfl
      simp only [Act.put, List.setIfInBounds_toArray, List.set_cons_zero, List.set_cons_succ]
      refine wpAnyH_take (i := 10) (oi := ⟨some 109, Op.convert 30 9 (Operand.tmp 108), 9, _, _, none⟩) (v := ?v10b) rfl (by kernel_rfl) (by kernel_rfl) (by kernel_rfl) (fun _ _ _ h => h) (Or.inl ⟨by rfl, ?hy10b⟩) (by assumption) ?r10b
      case hy10b =>
        intro w hSw
        try dsimp only at hSw
        go_simp
        try with_reducible rfl
      simp only [Act.put, List.setIfInBounds_toArray, List.set_cons_zero, List.set_cons_succ]
      refine wpAnyH_take (i := 11) (oi := ⟨some 110, Op.fieldAddr 32 (Operand.tmp 3) 5, 0, _, _, none⟩) (v := ?v11b) rfl (by kernel_rfl) (by kernel_rfl) (by kernel_rfl) (fun _ _ _ h => h) (Or.inl ⟨by rfl, ?hy11b⟩) (by assumption) ?r11b
      case hy11b =>
        intro w hSw
        try dsimp only at hSw
        go_simp
        try with_reducible rfl
      simp only [Act.put, List.setIfInBounds_toArray, List.set_cons_zero, List.set_cons_succ]
      refine wpAnyH_take (i := 12) (oi := ⟨some 111, Op.load 2 (Operand.tmp 110), 2, _, _, none⟩) (v := ?v12b) rfl (by kernel_rfl) (by kernel_rfl) (by kernel_rfl) (fun _ _ _ h => h) (Or.inl ⟨by rfl, ?hy12b⟩) (by assumption) ?r12b
      case hy12b =>
        intro w hSw
        try dsimp only at hSw
        go_simp
        try with_reducible rfl
      simp only [Act.put, List.setIfInBounds_toArray, List.set_cons_zero, List.set_cons_succ]
      refine wpAnyH_take (i := 13) (oi := ⟨some 112, Op.fieldAddr 32 (Operand.tmp 3) 6, 0, _, _, none⟩) (v := ?v13b) rfl (by kernel_rfl) (by kernel_rfl) (by kernel_rfl) (fun _ _ _ h => h) (Or.inl ⟨by rfl, ?hy13b⟩) (by assumption) ?r13b
      case hy13b =>
        intro w hSw
        try dsimp only at hSw
        go_simp
        try with_reducible rfl
      simp only [Act.put, List.setIfInBounds_toArray, List.set_cons_zero, List.set_cons_succ]
      refine wpAnyH_take (i := 14) (oi := ⟨some 113, Op.load 9 (Operand.tmp 112), 9, _, _, none⟩) (v := ?v14b) rfl (by kernel_rfl) (by kernel_rfl) (by kernel_rfl) (fun _ _ _ h => h) (Or.inl ⟨by rfl, ?hy14b⟩) (by assumption) ?r14b
      case hy14b =>
        intro w hSw
        try dsimp only at hSw
        go_simp
        try with_reducible rfl
      simp only [Act.put, List.setIfInBounds_toArray, List.set_cons_zero, List.set_cons_succ]
      refine wpAnyH_take (i := 15) (oi := ⟨some 114, Op.fieldAddr 32 (Operand.tmp 3) 15, 0, _, _, none⟩) (v := ?v15b) rfl (by kernel_rfl) (by kernel_rfl) (by kernel_rfl) (fun _ _ _ h => h) (Or.inl ⟨by rfl, ?hy15b⟩) (by assumption) ?r15b
      case hy15b =>
        intro w hSw
        try dsimp only at hSw
        go_simp
        try with_reducible rfl
      simp only [Act.put, List.setIfInBounds_toArray, List.set_cons_zero, List.set_cons_succ]
      refine wpAnyH_take (i := 16) (oi := ⟨some 115, Op.load 2 (Operand.tmp 114), 2, _, _, none⟩) (v := ?v16b) rfl (by kernel_rfl) (by kernel_rfl) (by kernel_rfl) (fun _ _ _ h => h) (Or.inl ⟨by rfl, ?hy16b⟩) (by assumption) ?r16b
      case hy16b =>
        intro w hSw
        try dsimp only at hSw
        go_simp
        try with_reducible rfl
      simp only [Act.put, List.setIfInBounds_toArray, List.set_cons_zero, List.set_cons_succ]
      refine wpAnyH_take (i := 17) (oi := ⟨some 116, Op.fieldAddr 32 (Operand.tmp 3) 16, 0, _, _, none⟩) (v := ?v17b) rfl (by kernel_rfl) (by kernel_rfl) (by kernel_rfl) (fun _ _ _ h => h) (Or.inl ⟨by rfl, ?hy17b⟩) (by assumption) ?r17b
      case hy17b =>
        intro w hSw
        try dsimp only at hSw
        go_simp
        try with_reducible rfl
      simp only [Act.put, List.setIfInBounds_toArray, List.set_cons_zero, List.set_cons_succ]
      refine wpAnyH_take (i := 18) (oi := ⟨some 117, Op.load 2 (Operand.tmp 116), 2, _, _, none⟩) (v := ?v18b) rfl (by kernel_rfl) (by kernel_rfl) (by kernel_rfl) (fun _ _ _ h => h) (Or.inl ⟨by rfl, ?hy18b⟩) (by assumption) ?r18b
      case hy18b =>
        intro w hSw
        try dsimp only at hSw
        go_simp
        try with_reducible rfl
      simp only [Act.put, List.setIfInBounds_toArray, List.set_cons_zero, List.set_cons_succ]
      refine wpAnyH_take (i := 19) (oi := ⟨some 118, Op.move (Operand.tmp 10), 2, _, _, none⟩) (v := ?v19b) rfl (by kernel_rfl) (by kernel_rfl) (by kernel_rfl) (fun _ _ _ h => h) (Or.inl ⟨by rfl, ?hy19b⟩) (by assumption) ?r19b
      case hy19b =>
        intro w hSw
        try dsimp only at hSw
        go_simp
        try with_reducible rfl
      simp only [Act.put, List.setIfInBounds_toArray, List.set_cons_zero, List.set_cons_succ]
      refine wpAnyH_take (i := 20) (oi := ⟨some 119, Op.fieldAddr 32 (Operand.tmp 3) 7, 0, _, _, none⟩) (v := ?v20b) rfl (by kernel_rfl) (by kernel_rfl) (by kernel_rfl) (fun _ _ _ h => h) (Or.inl ⟨by rfl, ?hy20b⟩) (by assumption) ?r20b
      case hy20b =>
        intro w hSw
        try dsimp only at hSw
        go_simp
        try with_reducible rfl
      simp only [Act.put, List.setIfInBounds_toArray, List.set_cons_zero, List.set_cons_succ]
      refine wpAnyH_take (i := 21) (oi := ⟨some 120, Op.load 4 (Operand.tmp 119), 4, _, _, none⟩) (v := ?v21b) rfl (by kernel_rfl) (by kernel_rfl) (by kernel_rfl) (fun _ _ _ h => h) (Or.inl ⟨by rfl, ?hy21b⟩) (by assumption) ?r21b
      case hy21b =>
        intro w hSw
        try dsimp only at hSw
        go_simp
        try with_reducible rfl
      simp only [Act.put, List.setIfInBounds_toArray, List.set_cons_zero, List.set_cons_succ]
      refine wpAnyH_take (i := 22) (oi := ⟨some 121, Op.unOp UnOp.not 4 (Operand.tmp 120), 4, _, _, none⟩) (v := ?v22b) rfl (by kernel_rfl) (by kernel_rfl) (by kernel_rfl) (fun _ _ _ h => h) (Or.inl ⟨by rfl, ?hy22b⟩) (by assumption) ?r22b
      case hy22b =>
        intro w hSw
        try dsimp only at hSw
        go_simp
        try with_reducible rfl
      simp only [Act.put, List.setIfInBounds_toArray, List.set_cons_zero, List.set_cons_succ]
      refine wpAnyH_take (i := 23) (oi := ⟨some 122, Op.move (Operand.tmp 121), 4, _, _, none⟩) (v := ?v23b) rfl (by kernel_rfl) (by kernel_rfl) (by kernel_rfl) (fun _ _ _ h => h) (Or.inl ⟨by rfl, ?hy23b⟩) (by assumption) ?r23b
      case hy23b =>
        intro w hSw
        try dsimp only at hSw
        go_simp
        try with_reducible rfl
      simp only [Act.put, List.setIfInBounds_toArray, List.set_cons_zero, List.set_cons_succ]
      refine wpAnyH_take (i := 24) (oi := ⟨some 123, Op.move (Operand.tmp 9), 4, _, _, some (23, false)⟩) (v := undef) rfl (by kernel_rfl) (by kernel_rfl) (by kernel_rfl) (fun _ _ _ h => h) (Or.inr ⟨by rfl, rfl⟩) (by assumption) ?r24b
      simp only [Act.put, List.setIfInBounds_toArray, List.set_cons_zero, List.set_cons_succ]
      refine wpAnyH_take (i := 25) (oi := ⟨some 124, Op.unOp UnOp.not 4 (Operand.tmp 123), 4, _, _, some (23, false)⟩) (v := undef) rfl (by kernel_rfl) (by kernel_rfl) (by kernel_rfl) (fun _ _ _ h => h) (Or.inr ⟨by rfl, rfl⟩) (by assumption) ?r25b
      simp only [Act.put, List.setIfInBounds_toArray, List.set_cons_zero, List.set_cons_succ]
      refine wpAnyH_take (i := 26) (oi := ⟨some 125, Op.pick (Operand.tmp 122) (Operand.const (Value.bool true)) (Operand.tmp 124), 4, _, _, none⟩) (v := ?v26b) rfl (by kernel_rfl) (by kernel_rfl) (by kernel_rfl) (fun _ _ _ h => h) (Or.inl ⟨by rfl, ?hy26b⟩) (by assumption) ?r26b
      case hy26b =>
        intro w hSw
        try dsimp only at hSw
        go_simp
        try with_reducible rfl
      simp only [Act.put, List.setIfInBounds_toArray, List.set_cons_zero, List.set_cons_succ]
      refine wpAnyH_take (i := 27) (oi := ⟨some 126, Op.build 71 #[(0, Operand.tmp 104), (1, Operand.tmp 106), (2, Operand.tmp 109), (3, Operand.tmp 111), (4, Operand.tmp 113), (5, Operand.tmp 115), (6, Operand.tmp 117), (7, Operand.tmp 118), (8, Operand.tmp 125)], 71, _, _, none⟩) (v := ?v27b) rfl (by kernel_rfl) (by kernel_rfl) (by kernel_rfl) (fun _ _ _ h => h) (Or.inl ⟨by rfl, ?hy27b⟩) (by assumption) ?r27b
      case hy27b =>
        intro w hSw
        try dsimp only at hSw
        go_simp
        try with_reducible rfl
      simp only [Act.put, List.setIfInBounds_toArray, List.set_cons_zero, List.set_cons_succ]
      refine wpAnyH_ready (rs := [4, 28]) (by kernel_rfl) (by simp) ?_
      refine AllReadyH.cons rfl (fun K hK => ?_) (AllReadyH.cons rfl (fun K hK => ?_) AllReadyH.nil)
      · skip
        go_simp
        refine hK.out _ _ (HMK.out _ (by first | exact HFD.out | exact HFAL.out _)) (fun hHeldB => ?_)
        clear hK K hHeld
        try simp only [Act.put, List.setIfInBounds_toArray, List.set_cons_zero, List.set_cons_succ]
        refine wpAnyH_ready (rs := [28]) (by kernel_rfl) (by simp) ?_
        refine AllReadyH.cons rfl (fun K hK => ?_) AllReadyH.nil
        go_simp
        refine hK.out _ _ (HMK.out _ (HFAL.out _)) (fun hHeldC => ?_)
        clear hK K hHeldB
        try simp only [Act.put, List.setIfInBounds_toArray, List.set_cons_zero, List.set_cons_succ]
        refine wpAnyH_ready (rs := [29]) (by kernel_rfl) (by simp) ?_
        refine AllReadyH.cons rfl (fun K hK => ?_) AllReadyH.nil
        refine step_append_lies _ (by rfl) (.tmp 103) (.tmp 127) 39 (by rfl) 0 71 j1 _ 9 96 Tryf.underlying39 hj0 hy0 hy1 hy2 (by rfl) (by omega) (.slice sa' sn sc') sn (asubs m.subs) (by rfl) (HOWNS.out _) ⟨wd.heap.size, 0, none⟩ 1 1 [.int .i64 ((sn : Int) + 1), .string e.team, .string e.tid, .int .i64 e.task, .string e.comp, .int .i64 e.off, .int .i64 e.size, .int .i64 (minsOf e.at_ m.st), .bool (true)] (by rfl) (by rfl) (World.news_of_block (heap_alloc_new wd _)) (by simp [Value.oneCell']) (by omega) (by unfold maxLen; omega) (by omega) (Nat.zero_le _) (wd.heap.size + 1) (by simp) ?_
        intro g4 cap4 w4 hown4 hgr4 hat4 hlt4
        obtain ⟨q1, f1⟩ := HKP.out _ _ hgr4
        have hf4 : Framed wd FX w4 FX := HGR.out _ _ hgr4
        refine hK.out _ _ (HMK.out _ hf4) (fun hHeld3 => ?_)
        clear hK K hHeldC
        try simp only [Act.put, List.setIfInBounds_toArray]
        refine wpAnyH_take (i := 30) (oi := ⟨some 129, Op.nilCheck (Operand.tmp 99), 0, _, _, none⟩) (v := ?v30bA) rfl (by kernel_rfl) (by kernel_rfl) (by kernel_rfl) (fun _ _ _ h => h) (Or.inl ⟨by rfl, ?hy30bA⟩) (by assumption) ?r30bA
        case hy30bA =>
          intro w hSw
          try dsimp only at hSw
          go_simp
          try with_reducible rfl
        simp only [Act.put]
        refine wpAnyH_take (i := 31) (oi := ⟨some 130, Op.fieldAddr 43 (Operand.tmp 129) 8, 0, _, _, none⟩) (v := ?v31bA) rfl (by kernel_rfl) (by kernel_rfl) (by kernel_rfl) (fun _ _ _ h => h) (Or.inl ⟨by rfl, ?hy31bA⟩) (by assumption) ?r31bA
        case hy31bA =>
          intro w hSw
          try dsimp only at hSw
          go_simp
          try with_reducible rfl
        simp only [Act.put]
        refine wpAnyH_ready (rs := [32]) (by kernel_rfl) (by simp) ?_
        refine AllReadyH.cons rfl (fun K hK => ?_) AllReadyH.nil
        go_simp
        refine hK.out _ _ (HMK.out _ (HST4.out _ _ hf4)) (fun hHeld4 => ?_)
        clear hK K hHeld3
        try simp only [Act.put, List.setIfInBounds_toArray, List.set_cons_zero, List.set_cons_succ]
        refine wpAnyH_done (by kernel_rfl) ?_ _
        refine NoPanic.normal ?_
        go_wp2_with fail
        go_ret2
        refine ModI.fin (M := MR.of (m.step e)) (ModI.turned (f := 1) (k' := sn + 1) (c' := asubs m.subs ++ [Value.int .i64 ((sn : Int) + 1), Value.string e.team, Value.string e.tid, Value.int .i64 e.task, Value.string e.comp, Value.int .i64 e.off, Value.int .i64 e.size, Value.int .i64 (minsOf e.at_ m.st), Value.bool (true)]) HM2.out HF2.out hiL (by omega) (by rw [HVS.out]; exact grown_of_alloc ⟨hgr4.os, hgr4.tape, hgr4.output, hgr4.size, hgr4.block⟩) hown4 (fun b hb => ?_) ?_) HFA.out HL.out hiL HST.out HRF.out (MR.Eq6.refl _) (refB_not (by rw [HKD.out]; decide)).symm
        · obtain rfl : g4 = b := by simpa [Value.ownBlock] using hb
          rw [HVS.out]
          rcases hat4 with h1 | h1
          · exact Or.inl h1
          · exact Or.inr (by omega)
        · exact step2_eq6 m e r tj sn false HKD.out HSN.out HFO.out HRR.out HTJ.out
      · skip
        go_simp
        refine hK.out _ _ (HMK.out _ (HFAL.out _)) (fun hHeldB => ?_)
        clear hK K hHeld
        try simp only [Act.put, List.setIfInBounds_toArray, List.set_cons_zero, List.set_cons_succ]
        refine wpAnyH_ready (rs := [4]) (by kernel_rfl) (by simp) ?_
        refine AllReadyH.cons rfl (fun K hK => ?_) AllReadyH.nil
        go_simp
        refine hK.out _ _ (HMK.out _ (by first | exact HFD.out | exact HFAL.out _)) (fun hHeldC => ?_)
        clear hK K hHeldB
        try simp only [Act.put, List.setIfInBounds_toArray, List.set_cons_zero, List.set_cons_succ]
        refine wpAnyH_ready (rs := [29]) (by kernel_rfl) (by simp) ?_
        refine AllReadyH.cons rfl (fun K hK => ?_) AllReadyH.nil
        refine step_append_lies _ (by rfl) (.tmp 103) (.tmp 127) 39 (by rfl) 0 71 j1 _ 9 96 Tryf.underlying39 hj0 hy0 hy1 hy2 (by rfl) (by omega) (.slice sa' sn sc') sn (asubs m.subs) (by rfl) (HOWNS.out _) ⟨wd.heap.size, 0, none⟩ 1 1 [.int .i64 ((sn : Int) + 1), .string e.team, .string e.tid, .int .i64 e.task, .string e.comp, .int .i64 e.off, .int .i64 e.size, .int .i64 (minsOf e.at_ m.st), .bool (true)] (by rfl) (by rfl) (World.news_of_block (heap_alloc_new wd _)) (by simp [Value.oneCell']) (by omega) (by unfold maxLen; omega) (by omega) (Nat.zero_le _) (wd.heap.size + 1) (by simp) ?_
        intro g4 cap4 w4 hown4 hgr4 hat4 hlt4
        obtain ⟨q1, f1⟩ := HKP.out _ _ hgr4
        have hf4 : Framed wd FX w4 FX := HGR.out _ _ hgr4
        refine hK.out _ _ (HMK.out _ hf4) (fun hHeld3 => ?_)
        clear hK K hHeldC
        try simp only [Act.put, List.setIfInBounds_toArray]
        refine wpAnyH_take (i := 30) (oi := ⟨some 129, Op.nilCheck (Operand.tmp 99), 0, _, _, none⟩) (v := ?v30bB) rfl (by kernel_rfl) (by kernel_rfl) (by kernel_rfl) (fun _ _ _ h => h) (Or.inl ⟨by rfl, ?hy30bB⟩) (by assumption) ?r30bB
        case hy30bB =>
          intro w hSw
          try dsimp only at hSw
          go_simp
          try with_reducible rfl
        simp only [Act.put]
        refine wpAnyH_take (i := 31) (oi := ⟨some 130, Op.fieldAddr 43 (Operand.tmp 129) 8, 0, _, _, none⟩) (v := ?v31bB) rfl (by kernel_rfl) (by kernel_rfl) (by kernel_rfl) (fun _ _ _ h => h) (Or.inl ⟨by rfl, ?hy31bB⟩) (by assumption) ?r31bB
        case hy31bB =>
          intro w hSw
          try dsimp only at hSw
          go_simp
          try with_reducible rfl
        simp only [Act.put]
        refine wpAnyH_ready (rs := [32]) (by kernel_rfl) (by simp) ?_
        refine AllReadyH.cons rfl (fun K hK => ?_) AllReadyH.nil
        go_simp
        refine hK.out _ _ (HMK.out _ (HST4.out _ _ hf4)) (fun hHeld4 => ?_)
        clear hK K hHeld3
        try simp only [Act.put, List.setIfInBounds_toArray, List.set_cons_zero, List.set_cons_succ]
        refine wpAnyH_done (by kernel_rfl) ?_ _
        refine NoPanic.normal ?_
        go_wp2_with fail
        go_ret2
        refine ModI.fin (M := MR.of (m.step e)) (ModI.turned (f := 1) (k' := sn + 1) (c' := asubs m.subs ++ [Value.int .i64 ((sn : Int) + 1), Value.string e.team, Value.string e.tid, Value.int .i64 e.task, Value.string e.comp, Value.int .i64 e.off, Value.int .i64 e.size, Value.int .i64 (minsOf e.at_ m.st), Value.bool (true)]) HM2.out HF2.out hiL (by omega) (by rw [HVS.out]; exact grown_of_alloc ⟨hgr4.os, hgr4.tape, hgr4.output, hgr4.size, hgr4.block⟩) hown4 (fun b hb => ?_) ?_) HFA.out HL.out hiL HST.out HRF.out (MR.Eq6.refl _) (refB_not (by rw [HKD.out]; decide)).symm
        · obtain rfl : g4 = b := by simpa [Value.ownBlock] using hb
          rw [HVS.out]
          rcases hat4 with h1 | h1
          · exact Or.inl h1
          · exact Or.inr (by omega)
        · exact step2_eq6 m e r tj sn false HKD.out HSN.out HFO.out HRR.out HTJ.out
    · skip
      have HMK : Hid (∀ w', Framed wd FX w' FX → w'.cell? ⟨w.heap.size, 3, none⟩ = some (.string e.team) ∧ w'.cell? ⟨w.heap.size, 4, none⟩ = some (.slice ta tl tc) ∧ w'.cell? ⟨w.heap.size, 5, none⟩ = some (.int .i64 e.task) ∧ w'.cell? ⟨w.heap.size, 6, none⟩ = some (.string e.comp) ∧ w'.cell? ⟨w.heap.size, 7, none⟩ = some (.bool true) ∧ w'.cell? ⟨w.heap.size, 15, none⟩ = some (.int .i64 e.off) ∧ w'.cell? ⟨w.heap.size, 16, none⟩ = some (.int .i64 e.size) ∧ (convert 30 9 (.slice ta tl tc)).run Tryf.prog w' = .ok (.string e.tid) w') := by
        intro w' hfw
        have hE := (hfw.block _ hEd hnX)
        exact ⟨(World.cell?_of_block (a := ⟨w.heap.size, 3, none⟩) hE).trans t3, (World.cell?_of_block (a := ⟨w.heap.size, 4, none⟩) hE).trans t4, (World.cell?_of_block (a := ⟨w.heap.size, 5, none⟩) hE).trans t5, (World.cell?_of_block (a := ⟨w.heap.size, 6, none⟩) hE).trans t6, (World.cell?_of_block (a := ⟨w.heap.size, 7, none⟩) hE).trans t7, (World.cell?_of_block (a := ⟨w.heap.size, 15, none⟩) hE).trans t15, (World.cell?_of_block (a := ⟨w.heap.size, 16, none⟩) hE).trans t16, (HBYW.out _ hfw).conv⟩
      clear t3 t4 t5 t6 t7 t15 t16
      refine wp_region_noPanic ?_
      refine wp_region_held_drew (S := (fun w' => w'.cell? ⟨w.heap.size, 3, none⟩ = some (.string e.team) ∧ w'.cell? ⟨w.heap.size, 4, none⟩ = some (.slice ta tl tc) ∧ w'.cell? ⟨w.heap.size, 5, none⟩ = some (.int .i64 e.task) ∧ w'.cell? ⟨w.heap.size, 6, none⟩ = some (.string e.comp) ∧ w'.cell? ⟨w.heap.size, 7, none⟩ = some (.bool true) ∧ w'.cell? ⟨w.heap.size, 15, none⟩ = some (.int .i64 e.off) ∧ w'.cell? ⟨w.heap.size, 16, none⟩ = some (.int .i64 e.size) ∧ (convert 30 9 (.slice ta tl tc)).run Tryf.prog w' = .ok (.string e.tid) w')) (by kernel_rfl) (HMK.out _ HFD.out) (fun hHeld => ?_)
      refine wpAnyH_take (i := 0) (oi := ⟨some 99, Op.move (Operand.tmp 8), 37, _, _, none⟩) (v := ?v0a) rfl (by kernel_rfl) (by kernel_rfl) (by kernel_rfl) (fun _ _ _ h => h) (Or.inl ⟨by rfl, ?hy0a⟩) (by assumption) ?r0a
      case hy0a =>
        intro w hSw
        try dsimp only at hSw
        go_simp
        try with_reducible rfl
      simp only [Act.put, List.setIfInBounds_toArray, List.set_cons_zero, List.set_cons_succ]
      refine wpAnyH_take (i := 1) (oi := ⟨some 100, Op.move (Operand.tmp 8), 37, _, _, none⟩) (v := ?v1a) rfl (by kernel_rfl) (by kernel_rfl) (by kernel_rfl) (fun _ _ _ h => h) (Or.inl ⟨by rfl, ?hy1a⟩) (by assumption) ?r1a
      case hy1a =>
        intro w hSw
        try dsimp only at hSw
        go_simp
        try with_reducible rfl
      simp only [Act.put, List.setIfInBounds_toArray, List.set_cons_zero, List.set_cons_succ]
      refine wpAnyH_take (i := 2) (oi := ⟨some 101, Op.nilCheck (Operand.tmp 100), 0, _, _, none⟩) (v := ?v2a) rfl (by kernel_rfl) (by kernel_rfl) (by kernel_rfl) (fun _ _ _ h => h) (Or.inl ⟨by rfl, ?hy2a⟩) (by assumption) ?r2a
      case hy2a =>
        intro w hSw
        try dsimp only at hSw
        go_simp
        try with_reducible rfl
      simp only [Act.put, List.setIfInBounds_toArray, List.set_cons_zero, List.set_cons_succ]
      refine wpAnyH_take (i := 3) (oi := ⟨some 102, Op.fieldAddr 43 (Operand.tmp 101) 8, 0, _, _, none⟩) (v := ?v3a) rfl (by kernel_rfl) (by kernel_rfl) (by kernel_rfl) (fun _ _ _ h => h) (Or.inl ⟨by rfl, ?hy3a⟩) (by assumption) ?r3a
      case hy3a =>
        intro w hSw
        try dsimp only at hSw
        go_simp
        try with_reducible rfl
      simp only [Act.put, List.setIfInBounds_toArray, List.set_cons_zero, List.set_cons_succ]
      refine wpAnyH_take (i := 5) (oi := ⟨some 104, Op.move (Operand.tmp 11), 3, _, _, none⟩) (v := ?v5a) rfl (by kernel_rfl) (by kernel_rfl) (by kernel_rfl) (fun _ _ _ h => h) (Or.inl ⟨by rfl, ?hy5a⟩) (by assumption) ?r5a
      case hy5a =>
        intro w hSw
        try dsimp only at hSw
        go_simp
        try with_reducible rfl
      simp only [Act.put, List.setIfInBounds_toArray, List.set_cons_zero, List.set_cons_succ]
      refine wpAnyH_take (i := 6) (oi := ⟨some 105, Op.fieldAddr 32 (Operand.tmp 3) 3, 0, _, _, none⟩) (v := ?v6a) rfl (by kernel_rfl) (by kernel_rfl) (by kernel_rfl) (fun _ _ _ h => h) (Or.inl ⟨by rfl, ?hy6a⟩) (by assumption) ?r6a
      case hy6a =>
        intro w hSw
        try dsimp only at hSw
        go_simp
        try with_reducible rfl
      simp only [Act.put, List.setIfInBounds_toArray, List.set_cons_zero, List.set_cons_succ]
      refine wpAnyH_take (i := 7) (oi := ⟨some 106, Op.load 9 (Operand.tmp 105), 9, _, _, none⟩) (v := ?v7a) rfl (by kernel_rfl) (by kernel_rfl) (by kernel_rfl) (fun _ _ _ h => h) (Or.inl ⟨by rfl, ?hy7a⟩) (by assumption) ?r7a
      case hy7a =>
        intro w hSw
        try dsimp only at hSw
        go_simp
        try with_reducible rfl
      simp only [Act.put, List.setIfInBounds_toArray, List.set_cons_zero, List.set_cons_succ]
      refine wpAnyH_take (i := 8) (oi := ⟨some 107, Op.fieldAddr 32 (Operand.tmp 3) 4, 0, _, _, none⟩) (v := ?v8a) rfl (by kernel_rfl) (by kernel_rfl) (by kernel_rfl) (fun _ _ _ h => h) (Or.inl ⟨by rfl, ?hy8a⟩) (by assumption) ?r8a
      case hy8a =>
        intro w hSw
        try dsimp only at hSw
        go_simp
        try with_reducible rfl
      simp only [Act.put, List.setIfInBounds_toArray, List.set_cons_zero, List.set_cons_succ]
      refine wpAnyH_take (i := 9) (oi := ⟨some 108, Op.load 30 (Operand.tmp 107), 30, _, _, none⟩) (v := ?v9a) rfl (by kernel_rfl) (by kernel_rfl) (by kernel_rfl) (fun _ _ _ h => h) (Or.inl ⟨by rfl, ?hy9a⟩) (by assumption) ?r9a
      case hy9a =>
        intro w hSw
        try dsimp only at hSw
        go_simp
        try with_reducible rfl
      simp only [Act.put, List.setIfInBounds_toArray, List.set_cons_zero, List.set_cons_succ]
      refine wpAnyH_take (i := 10) (oi := ⟨some 109, Op.convert 30 9 (Operand.tmp 108), 9, _, _, none⟩) (v := ?v10a) rfl (by kernel_rfl) (by kernel_rfl) (by kernel_rfl) (fun _ _ _ h => h) (Or.inl ⟨by rfl, ?hy10a⟩) (by assumption) ?r10a
      case hy10a =>
        intro w hSw
        try dsimp only at hSw
        go_simp
        try with_reducible rfl
      simp only [Act.put, List.setIfInBounds_toArray, List.set_cons_zero, List.set_cons_succ]
      refine wpAnyH_take (i := 11) (oi := ⟨some 110, Op.fieldAddr 32 (Operand.tmp 3) 5, 0, _, _, none⟩) (v := ?v11a) rfl (by kernel_rfl) (by kernel_rfl) (by kernel_rfl) (fun _ _ _ h => h) (Or.inl ⟨by rfl, ?hy11a⟩) (by assumption) ?r11a
      case hy11a =>
        intro w hSw
        try dsimp only at hSw
        go_simp
        try with_reducible rfl
      simp only [Act.put, List.setIfInBounds_toArray, List.set_cons_zero, List.set_cons_succ]
      refine wpAnyH_take (i := 12) (oi := ⟨some 111, Op.load 2 (Operand.tmp 110), 2, _, _, none⟩) (v := ?v12a) rfl (by kernel_rfl) (by kernel_rfl) (by kernel_rfl) (fun _ _ _ h => h) (Or.inl ⟨by rfl, ?hy12a⟩) (by assumption) ?r12a
      case hy12a =>
        intro w hSw
        try dsimp only at hSw
        go_simp
        try with_reducible rfl
      simp only [Act.put, List.setIfInBounds_toArray, List.set_cons_zero, List.set_cons_succ]
      refine wpAnyH_take (i := 13) (oi := ⟨some 112, Op.fieldAddr 32 (Operand.tmp 3) 6, 0, _, _, none⟩) (v := ?v13a) rfl (by kernel_rfl) (by kernel_rfl) (by kernel_rfl) (fun _ _ _ h => h) (Or.inl ⟨by rfl, ?hy13a⟩) (by assumption) ?r13a
      case hy13a =>
        intro w hSw
        try dsimp only at hSw
        go_simp
        try with_reducible rfl
      simp only [Act.put, List.setIfInBounds_toArray, List.set_cons_zero, List.set_cons_succ]
      refine wpAnyH_take (i := 14) (oi := ⟨some 113, Op.load 9 (Operand.tmp 112), 9, _, _, none⟩) (v := ?v14a) rfl (by kernel_rfl) (by kernel_rfl) (by kernel_rfl) (fun _ _ _ h => h) (Or.inl ⟨by rfl, ?hy14a⟩) (by assumption) ?r14a
      case hy14a =>
        intro w hSw
        try dsimp only at hSw
        go_simp
        try with_reducible rfl
      simp only [Act.put, List.setIfInBounds_toArray, List.set_cons_zero, List.set_cons_succ]
      refine wpAnyH_take (i := 15) (oi := ⟨some 114, Op.fieldAddr 32 (Operand.tmp 3) 15, 0, _, _, none⟩) (v := ?v15a) rfl (by kernel_rfl) (by kernel_rfl) (by kernel_rfl) (fun _ _ _ h => h) (Or.inl ⟨by rfl, ?hy15a⟩) (by assumption) ?r15a
      case hy15a =>
        intro w hSw
        try dsimp only at hSw
        go_simp
        try with_reducible rfl
      simp only [Act.put, List.setIfInBounds_toArray, List.set_cons_zero, List.set_cons_succ]
      refine wpAnyH_take (i := 16) (oi := ⟨some 115, Op.load 2 (Operand.tmp 114), 2, _, _, none⟩) (v := ?v16a) rfl (by kernel_rfl) (by kernel_rfl) (by kernel_rfl) (fun _ _ _ h => h) (Or.inl ⟨by rfl, ?hy16a⟩) (by assumption) ?r16a
      case hy16a =>
        intro w hSw
        try dsimp only at hSw
        go_simp
        try with_reducible rfl
      simp only [Act.put, List.setIfInBounds_toArray, List.set_cons_zero, List.set_cons_succ]
      refine wpAnyH_take (i := 17) (oi := ⟨some 116, Op.fieldAddr 32 (Operand.tmp 3) 16, 0, _, _, none⟩) (v := ?v17a) rfl (by kernel_rfl) (by kernel_rfl) (by kernel_rfl) (fun _ _ _ h => h) (Or.inl ⟨by rfl, ?hy17a⟩) (by assumption) ?r17a
      case hy17a =>
        intro w hSw
        try dsimp only at hSw
        go_simp
        try with_reducible rfl
      simp only [Act.put, List.setIfInBounds_toArray, List.set_cons_zero, List.set_cons_succ]
      refine wpAnyH_take (i := 18) (oi := ⟨some 117, Op.load 2 (Operand.tmp 116), 2, _, _, none⟩) (v := ?v18a) rfl (by kernel_rfl) (by kernel_rfl) (by kernel_rfl) (fun _ _ _ h => h) (Or.inl ⟨by rfl, ?hy18a⟩) (by assumption) ?r18a
      case hy18a =>
        intro w hSw
        try dsimp only at hSw
        go_simp
        try with_reducible rfl
      simp only [Act.put, List.setIfInBounds_toArray, List.set_cons_zero, List.set_cons_succ]
      refine wpAnyH_take (i := 19) (oi := ⟨some 118, Op.move (Operand.tmp 10), 2, _, _, none⟩) (v := ?v19a) rfl (by kernel_rfl) (by kernel_rfl) (by kernel_rfl) (fun _ _ _ h => h) (Or.inl ⟨by rfl, ?hy19a⟩) (by assumption) ?r19a
      case hy19a =>
        intro w hSw
        try dsimp only at hSw
        go_simp
        try with_reducible rfl
      simp only [Act.put, List.setIfInBounds_toArray, List.set_cons_zero, List.set_cons_succ]
      refine wpAnyH_take (i := 20) (oi := ⟨some 119, Op.fieldAddr 32 (Operand.tmp 3) 7, 0, _, _, none⟩) (v := ?v20a) rfl (by kernel_rfl) (by kernel_rfl) (by kernel_rfl) (fun _ _ _ h => h) (Or.inl ⟨by rfl, ?hy20a⟩) (by assumption) ?r20a
      case hy20a =>
        intro w hSw
        try dsimp only at hSw
        go_simp
        try with_reducible rfl
      simp only [Act.put, List.setIfInBounds_toArray, List.set_cons_zero, List.set_cons_succ]
      refine wpAnyH_take (i := 21) (oi := ⟨some 120, Op.load 4 (Operand.tmp 119), 4, _, _, none⟩) (v := ?v21a) rfl (by kernel_rfl) (by kernel_rfl) (by kernel_rfl) (fun _ _ _ h => h) (Or.inl ⟨by rfl, ?hy21a⟩) (by assumption) ?r21a
      case hy21a =>
        intro w hSw
        try dsimp only at hSw
        go_simp
        try with_reducible rfl
      simp only [Act.put, List.setIfInBounds_toArray, List.set_cons_zero, List.set_cons_succ]
      refine wpAnyH_take (i := 22) (oi := ⟨some 121, Op.unOp UnOp.not 4 (Operand.tmp 120), 4, _, _, none⟩) (v := ?v22a) rfl (by kernel_rfl) (by kernel_rfl) (by kernel_rfl) (fun _ _ _ h => h) (Or.inl ⟨by rfl, ?hy22a⟩) (by assumption) ?r22a
      case hy22a =>
        intro w hSw
        try dsimp only at hSw
        go_simp
        try with_reducible rfl
      simp only [Act.put, List.setIfInBounds_toArray, List.set_cons_zero, List.set_cons_succ]
      refine wpAnyH_take (i := 23) (oi := ⟨some 122, Op.move (Operand.tmp 121), 4, _, _, none⟩) (v := ?v23a) rfl (by kernel_rfl) (by kernel_rfl) (by kernel_rfl) (fun _ _ _ h => h) (Or.inl ⟨by rfl, ?hy23a⟩) (by assumption) ?r23a
      case hy23a =>
        intro w hSw
        try dsimp only at hSw
        go_simp
        try with_reducible rfl
      simp only [Act.put, List.setIfInBounds_toArray, List.set_cons_zero, List.set_cons_succ]
      refine wpAnyH_take (i := 24) (oi := ⟨some 123, Op.move (Operand.tmp 9), 4, _, _, some (23, false)⟩) (v := ?v24a) rfl (by kernel_rfl) (by kernel_rfl) (by kernel_rfl) (fun _ _ _ h => h) (Or.inl ⟨by rfl, ?hy24a⟩) (by assumption) ?r24a
      case hy24a =>
        intro w hSw
        try dsimp only at hSw
        go_simp
        try with_reducible rfl
      simp only [Act.put, List.setIfInBounds_toArray, List.set_cons_zero, List.set_cons_succ]
      refine wpAnyH_take (i := 25) (oi := ⟨some 124, Op.unOp UnOp.not 4 (Operand.tmp 123), 4, _, _, some (23, false)⟩) (v := ?v25a) rfl (by kernel_rfl) (by kernel_rfl) (by kernel_rfl) (fun _ _ _ h => h) (Or.inl ⟨by rfl, ?hy25a⟩) (by assumption) ?r25a
      case hy25a =>
        intro w hSw
        try dsimp only at hSw
        go_simp
        try with_reducible rfl
      simp only [Act.put, List.setIfInBounds_toArray, List.set_cons_zero, List.set_cons_succ]
      refine wpAnyH_take (i := 26) (oi := ⟨some 125, Op.pick (Operand.tmp 122) (Operand.const (Value.bool true)) (Operand.tmp 124), 4, _, _, none⟩) (v := ?v26a) rfl (by kernel_rfl) (by kernel_rfl) (by kernel_rfl) (fun _ _ _ h => h) (Or.inl ⟨by rfl, ?hy26a⟩) (by assumption) ?r26a
      case hy26a =>
        intro w hSw
        try dsimp only at hSw
        go_simp
        try with_reducible rfl
      simp only [Act.put, List.setIfInBounds_toArray, List.set_cons_zero, List.set_cons_succ]
      refine wpAnyH_take (i := 27) (oi := ⟨some 126, Op.build 71 #[(0, Operand.tmp 104), (1, Operand.tmp 106), (2, Operand.tmp 109), (3, Operand.tmp 111), (4, Operand.tmp 113), (5, Operand.tmp 115), (6, Operand.tmp 117), (7, Operand.tmp 118), (8, Operand.tmp 125)], 71, _, _, none⟩) (v := ?v27a) rfl (by kernel_rfl) (by kernel_rfl) (by kernel_rfl) (fun _ _ _ h => h) (Or.inl ⟨by rfl, ?hy27a⟩) (by assumption) ?r27a
      case hy27a =>
        intro w hSw
        try dsimp only at hSw
        go_simp
        try with_reducible rfl
      simp only [Act.put, List.setIfInBounds_toArray, List.set_cons_zero, List.set_cons_succ]
      refine wpAnyH_ready (rs := [4, 28]) (by kernel_rfl) (by simp) ?_
      refine AllReadyH.cons rfl (fun K hK => ?_) (AllReadyH.cons rfl (fun K hK => ?_) AllReadyH.nil)
      · skip
        go_simp
        refine hK.out _ _ (HMK.out _ (by first | exact HFD.out | exact HFAL.out _)) (fun hHeldB => ?_)
        clear hK K hHeld
        try simp only [Act.put, List.setIfInBounds_toArray, List.set_cons_zero, List.set_cons_succ]
        refine wpAnyH_ready (rs := [28]) (by kernel_rfl) (by simp) ?_
        refine AllReadyH.cons rfl (fun K hK => ?_) AllReadyH.nil
        go_simp
        refine hK.out _ _ (HMK.out _ (HFAL.out _)) (fun hHeldC => ?_)
        clear hK K hHeldB
        try simp only [Act.put, List.setIfInBounds_toArray, List.set_cons_zero, List.set_cons_succ]
        refine wpAnyH_ready (rs := [29]) (by kernel_rfl) (by simp) ?_
        refine AllReadyH.cons rfl (fun K hK => ?_) AllReadyH.nil
        refine step_append_lies _ (by rfl) (.tmp 103) (.tmp 127) 39 (by rfl) 0 71 j1 _ 9 96 Tryf.underlying39 hj0 hy0 hy1 hy2 (by rfl) (by omega) (.slice sa' sn sc') sn (asubs m.subs) (by rfl) (HOWNS.out _) ⟨wd.heap.size, 0, none⟩ 1 1 [.int .i64 ((sn : Int) + 1), .string e.team, .string e.tid, .int .i64 e.task, .string e.comp, .int .i64 e.off, .int .i64 e.size, .int .i64 (minsOf e.at_ m.st), .bool (!r)] (by rfl) (by rfl) (World.news_of_block (heap_alloc_new wd _)) (by simp [Value.oneCell']) (by omega) (by unfold maxLen; omega) (by omega) (Nat.zero_le _) (wd.heap.size + 1) (by simp) ?_
        intro g4 cap4 w4 hown4 hgr4 hat4 hlt4
        obtain ⟨q1, f1⟩ := HKP.out _ _ hgr4
        have hf4 : Framed wd FX w4 FX := HGR.out _ _ hgr4
        refine hK.out _ _ (HMK.out _ hf4) (fun hHeld3 => ?_)
        clear hK K hHeldC
        try simp only [Act.put, List.setIfInBounds_toArray]
        refine wpAnyH_take (i := 30) (oi := ⟨some 129, Op.nilCheck (Operand.tmp 99), 0, _, _, none⟩) (v := ?v30aA) rfl (by kernel_rfl) (by kernel_rfl) (by kernel_rfl) (fun _ _ _ h => h) (Or.inl ⟨by rfl, ?hy30aA⟩) (by assumption) ?r30aA
        case hy30aA =>
          intro w hSw
          try dsimp only at hSw
          go_simp
          try with_reducible rfl
        simp only [Act.put]
        refine wpAnyH_take (i := 31) (oi := ⟨some 130, Op.fieldAddr 43 (Operand.tmp 129) 8, 0, _, _, none⟩) (v := ?v31aA) rfl (by kernel_rfl) (by kernel_rfl) (by kernel_rfl) (fun _ _ _ h => h) (Or.inl ⟨by rfl, ?hy31aA⟩) (by assumption) ?r31aA
        case hy31aA =>
          intro w hSw
          try dsimp only at hSw
          go_simp
          try with_reducible rfl
        simp only [Act.put]
        refine wpAnyH_ready (rs := [32]) (by kernel_rfl) (by simp) ?_
        refine AllReadyH.cons rfl (fun K hK => ?_) AllReadyH.nil
        go_simp
        refine hK.out _ _ (HMK.out _ (HST4.out _ _ hf4)) (fun hHeld4 => ?_)
        clear hK K hHeld3
        try simp only [Act.put, List.setIfInBounds_toArray, List.set_cons_zero, List.set_cons_succ]
        refine wpAnyH_done (by kernel_rfl) ?_ _
        refine NoPanic.normal ?_
        go_wp2_with fail
        go_ret2
        refine ModI.fin (M := MR.of (m.step e)) (ModI.turned (f := 1) (k' := sn + 1) (c' := asubs m.subs ++ [Value.int .i64 ((sn : Int) + 1), Value.string e.team, Value.string e.tid, Value.int .i64 e.task, Value.string e.comp, Value.int .i64 e.off, Value.int .i64 e.size, Value.int .i64 (minsOf e.at_ m.st), Value.bool (!r)]) HM2.out HF2.out hiL (by omega) (by rw [HVS.out]; exact grown_of_alloc ⟨hgr4.os, hgr4.tape, hgr4.output, hgr4.size, hgr4.block⟩) hown4 (fun b hb => ?_) ?_) HFA.out HL.out hiL HST.out HRF.out (MR.Eq6.refl _) (refB_not (by rw [HKD.out]; decide)).symm
        · obtain rfl : g4 = b := by simpa [Value.ownBlock] using hb
          rw [HVS.out]
          rcases hat4 with h1 | h1
          · exact Or.inl h1
          · exact Or.inr (by omega)
        · exact step2_eq6 m e r tj sn true HKD.out HSN.out HFO.out HRR.out HTJ.out
      · skip
        go_simp
        refine hK.out _ _ (HMK.out _ (HFAL.out _)) (fun hHeldB => ?_)
        clear hK K hHeld
        try simp only [Act.put, List.setIfInBounds_toArray, List.set_cons_zero, List.set_cons_succ]
        refine wpAnyH_ready (rs := [4]) (by kernel_rfl) (by simp) ?_
        refine AllReadyH.cons rfl (fun K hK => ?_) AllReadyH.nil
        go_simp
        refine hK.out _ _ (HMK.out _ (by first | exact HFD.out | exact HFAL.out _)) (fun hHeldC => ?_)
        clear hK K hHeldB
        try simp only [Act.put, List.setIfInBounds_toArray, List.set_cons_zero, List.set_cons_succ]
        refine wpAnyH_ready (rs := [29]) (by kernel_rfl) (by simp) ?_
        refine AllReadyH.cons rfl (fun K hK => ?_) AllReadyH.nil
        refine step_append_lies _ (by rfl) (.tmp 103) (.tmp 127) 39 (by rfl) 0 71 j1 _ 9 96 Tryf.underlying39 hj0 hy0 hy1 hy2 (by rfl) (by omega) (.slice sa' sn sc') sn (asubs m.subs) (by rfl) (HOWNS.out _) ⟨wd.heap.size, 0, none⟩ 1 1 [.int .i64 ((sn : Int) + 1), .string e.team, .string e.tid, .int .i64 e.task, .string e.comp, .int .i64 e.off, .int .i64 e.size, .int .i64 (minsOf e.at_ m.st), .bool (!r)] (by rfl) (by rfl) (World.news_of_block (heap_alloc_new wd _)) (by simp [Value.oneCell']) (by omega) (by unfold maxLen; omega) (by omega) (Nat.zero_le _) (wd.heap.size + 1) (by simp) ?_
        intro g4 cap4 w4 hown4 hgr4 hat4 hlt4
        obtain ⟨q1, f1⟩ := HKP.out _ _ hgr4
        have hf4 : Framed wd FX w4 FX := HGR.out _ _ hgr4
        refine hK.out _ _ (HMK.out _ hf4) (fun hHeld3 => ?_)
        clear hK K hHeldC
        try simp only [Act.put, List.setIfInBounds_toArray]
        refine wpAnyH_take (i := 30) (oi := ⟨some 129, Op.nilCheck (Operand.tmp 99), 0, _, _, none⟩) (v := ?v30aB) rfl (by kernel_rfl) (by kernel_rfl) (by kernel_rfl) (fun _ _ _ h => h) (Or.inl ⟨by rfl, ?hy30aB⟩) (by assumption) ?r30aB
        case hy30aB =>
          intro w hSw
          try dsimp only at hSw
          go_simp
          try with_reducible rfl
        simp only [Act.put]
        refine wpAnyH_take (i := 31) (oi := ⟨some 130, Op.fieldAddr 43 (Operand.tmp 129) 8, 0, _, _, none⟩) (v := ?v31aB) rfl (by kernel_rfl) (by kernel_rfl) (by kernel_rfl) (fun _ _ _ h => h) (Or.inl ⟨by rfl, ?hy31aB⟩) (by assumption) ?r31aB
        case hy31aB =>
          intro w hSw
          try dsimp only at hSw
          go_simp
          try with_reducible rfl
        simp only [Act.put]
        refine wpAnyH_ready (rs := [32]) (by kernel_rfl) (by simp) ?_
        refine AllReadyH.cons rfl (fun K hK => ?_) AllReadyH.nil
        go_simp
        refine hK.out _ _ (HMK.out _ (HST4.out _ _ hf4)) (fun hHeld4 => ?_)
        clear hK K hHeld3
        try simp only [Act.put, List.setIfInBounds_toArray, List.set_cons_zero, List.set_cons_succ]
        refine wpAnyH_done (by kernel_rfl) ?_ _
        refine NoPanic.normal ?_
        go_wp2_with fail
        go_ret2
        refine ModI.fin (M := MR.of (m.step e)) (ModI.turned (f := 1) (k' := sn + 1) (c' := asubs m.subs ++ [Value.int .i64 ((sn : Int) + 1), Value.string e.team, Value.string e.tid, Value.int .i64 e.task, Value.string e.comp, Value.int .i64 e.off, Value.int .i64 e.size, Value.int .i64 (minsOf e.at_ m.st), Value.bool (!r)]) HM2.out HF2.out hiL (by omega) (by rw [HVS.out]; exact grown_of_alloc ⟨hgr4.os, hgr4.tape, hgr4.output, hgr4.size, hgr4.block⟩) hown4 (fun b hb => ?_) ?_) HFA.out HL.out hiL HST.out HRF.out (MR.Eq6.refl _) (refB_not (by rw [HKD.out]; decide)).symm
        · obtain rfl : g4 = b := by simpa [Value.ownBlock] using hb
          rw [HVS.out]
          rcases hat4 with h1 | h1
          · exact Or.inl h1
          · exact Or.inr (by omega)
        · exact step2_eq6 m e r tj sn true HKD.out HSN.out HFO.out HRR.out HTJ.out
end Go.Proofs.Qxb6616853aFmt
