import Derived.Test.Qxb6616853aFmtMq
import Derived.Test.Qxb6616853aFmtJu
import Derived.Deep.RegionWith
import Derived.Deep.RegionHeld3
import Derived.BigQuiet
namespace Go.Proofs.Qxb6616853aFmt
open Go.RowKit
attribute [local go_sem ↓] Go.wp_at_zero Go.wp_at_succ

theorem nat_ne_of_int {a b : Nat} (h : ¬ ((a : Int) + 1 = (b : Int) + 1)) : a ≠ b := fun e => h (by rw [e])

set_option maxRecDepth 100000 in
set_option maxHeartbeats 4000000 in
theorem step_k3 (w : World) (v : Value) (Ls : List PLed) (x : Nat → Nat → Value) (N : Nat) (e : PEv) (vt vn vm vb : Value) (h : IsMod w v Ls x) (hok : AllOk Ls N) (hN : N < 4096) (he : e.Ok) (href : refAll Ls e = false) (hkd : e.kind = 3) :
    Calls Tryf.prog 8 #[v, .agg (evA e vt vn vm vb)] w (StepPost w (foot v Ls.length x) (stepAll Ls e) (refAll Ls e)) := by
  have HREF0 : Hid _ := href
  clear href
  have HKD : Hid _ := hkd
  clear hkd
  obtain ⟨va, vc, hv⟩ := owns_form h.row
  obtain ⟨F, hF⟩ : ∃ F, F = foot v Ls.length x := ⟨_, rfl⟩
  rw [← hF]
  obtain ⟨W, hW⟩ : ∃ W, W = w.alloc (.cells (evA e vt vn vm vb) 32) := ⟨_, rfl⟩
  have hWb : Below w.heap.size w W := by rw [hW]; exact (Below.refl _ _).alloc (Nat.le_refl _) _
  have hWz : W.heap.size = w.heap.size + 1 := by rw [hW]; simp
  have hEW : Blk W w.heap.size (evA e vt vn vm vb) 32 := by rw [hW]; exact Blk.new _ _ _
  have hMW : IsMod W v Ls x := ModAt.below h hWb
  have hnE : ¬ F w.heap.size := fun hf => absurd (h.foot_lt (by rw [hF] at hf; exact hf)) (by omega)
  have hWF : Framed w (F) W (F) := Framed.ofBelow hWb (Nat.le_refl _)
  have hn4 : Ls.length < 4096 := Nat.lt_of_le_of_lt hok.2.2 hN
  obtain ⟨n, hn⟩ : ∃ n, n = Ls.length := ⟨_, rfl⟩
  have hq : ∀ i, i < n → ∃ g, va = some ⟨g, 0, none⟩ ∧ W.cell? ⟨g, i * 13, none⟩ = some (.string (ledAt Ls i).name) := fun i hi => by
    rcases hMW.row.form (by omega) with ⟨g, cap, hv', _⟩
    rw [hv] at hv'
    cases hv'
    refine ⟨g, rfl, ?_⟩
    have hc := hMW
    rw [hv] at hc
    exact hc.cell (i := i) (p := 0) (by omega) (by omega)
  have e1 : W.cell? ⟨w.heap.size, 1, none⟩ = some (.string e.oly) := hEW.cell 1
  have hownv : ∀ wr o, Quiet W wr → (wr.alloc o).ownsRow 0 43 13 (.slice va n vc) n (rows n fun i => mrC (MR.of (ledAt Ls i)) (x i)) := fun wr o hq' => by
    have := hMW.row
    rw [hv] at this
    rw [hn]
    have h2 : wr.ownsRow 0 43 13 (.slice va Ls.length vc) Ls.length (rows Ls.length fun i => mrC (MR.of (ledAt Ls i)) (x i)) := owns_of_block this (fun k _ => by rw [hq'.heap])
    exact h2.alloc o
  have HMW : Hid (IsMod W v Ls x) := hMW
  have HEW : Hid (Blk W w.heap.size (evA e vt vn vm vb) 32) := hEW
  have HW : Hid (W = w.alloc (.cells (evA e vt vn vm vb) 32)) := hW
  have HWF : Hid (Framed w (F) W (F)) := hWF
  have HWB : Hid (Below w.heap.size w W) := hWb
  have HWZ : Hid (W.heap.size = w.heap.size + 1) := hWz
  have HNE : Hid (¬ F w.heap.size) := hnE
  have HV : Hid (v = .slice va Ls.length vc) := hv
  have HF : Hid (F = foot v Ls.length x) := hF
  have HNL : Hid (n = Ls.length) := hn
  have HOK : Hid (AllOk Ls N) := hok
  have HE : Hid e.Ok := he
  have HOWN : Hid (∀ wr o, Quiet W wr → (wr.alloc o).ownsRow 0 43 13 (.slice va n vc) n (rows n fun i => mrC (MR.of (ledAt Ls i)) (x i))) := hownv
  have hnN : n < 4096 := by omega
  obtain ⟨i0, hi0, hz0, hz1, hz2⟩ := info_parts infoF43
  have hv2 : v = .slice va n vc := by rw [hn]; exact hv
  rw [hv2]
  clear hF hMW hEW hW hWF hWb hWz hnE hv hn hok he hv2 h hn4 hownv
  unfold evA at HW ⊢
  go_enter Tryf.func8, Tryf.ntmps8
  go_upto_region 1 with fail
  rw [← HW.out]
  clear HW
  go_upto_block 0 with fail
  go_cut [6, 7] from 17 to 31 (fun v6 v7 wx => ∃ z, v6 = .int .i64 z ∧ Quiet W wx ∧ Scan Ls e.oly z)
  case first =>
    go_wp2_with fail
    go_loopw [6, 7] (fun vi vj wr => ∃ k : Nat, k ≤ n ∧ vi = .int .i64 (-1) ∧ vj = .int .i64 k ∧ (∀ j, j < k → eqS (ledAt Ls j).name e.oly = false) ∧ Quiet W wr) (fun _ vj _ => n - (intOf vj).toNat)
    case atStart => exact ⟨0, Nat.zero_le _, rfl, rfl, fun j hj => absurd hj (Nat.not_lt_zero _), Quiet.refl _⟩
    case round =>
      obtain ⟨k, hk, rfl, rfl, hno, hqt⟩ := hrel
      have HNO : Hid (∀ j, j < k → eqS (ledAt Ls j).name e.oly = false) := hno
      have HQT : Hid (Quiet W wr) := hqt
      clear hno
      by_cases hlt : k < n
      · obtain ⟨g, rfl, hc1⟩ := hq k hlt
        rw [← hqt.cell] at hc1 e1
        clear hq hqt
        cases ha : eqS (ledAt Ls k).name e.oly
        · have ha1 : ((ledAt Ls k).name.toList == e.oly.toList) = false := ha
          have HA : Hid (eqS (ledAt Ls k).name e.oly = false) := ha
          clear ha
          go_wp2_with fail
          go_region
          go_wp2
          go_round
          case rel => exact ⟨k + 1, by omega, rfl, by go_num, fun j hj => by
            by_cases hjk : j = k
            · subst hjk
              exact HA.out
            · exact HNO.out j (by omega), HQT.out.trans ⟨rfl, rfl, rfl, rfl⟩⟩
          case measure => simp [intOf]; omega
        · have ha1 : ((ledAt Ls k).name.toList == e.oly.toList) = true := ha
          have HA : Hid (eqS (ledAt Ls k).name e.oly = true) := ha
          clear ha
          go_wp2_with fail
          go_region
          go_wp2
          go_meet
          exact ⟨k, rfl, HQT.out.trans ⟨rfl, rfl, rfl, rfl⟩, Or.inl ⟨k, rfl, by rw [← HNL.out]; exact hlt, HNO.out, HA.out⟩⟩
      · obtain rfl : k = n := by omega
        clear hq hlt hk hqt
        go_wp2
        go_meet
        exact ⟨-1, rfl, HQT.out, Or.inr ⟨rfl, by rw [← HNL.out]; exact HNO.out⟩⟩
  case rest =>
  rename World => wr
  obtain ⟨z, rfl, hqt, hsc⟩ := hcut
  have HQT : Hid (Quiet W wr) := hqt
  have HSC : Hid (Scan Ls e.oly z) := hsc
  rw [← hqt.cell] at e1
  clear hq hqt hsc
  go_upto_if 33 with fail
  go_cut [0, 6] from 32 to 42 (fun v0 v6 wx => Mid W (F) Ls e.oly v0 v6 wx)
  case first =>
    by_cases hz : z < 0
    · have hno : ∀ j, j < Ls.length → eqS (ledAt Ls j).name e.oly = false := by
        rcases HSC.out with ⟨k, rfl, _⟩ | ⟨_, h2⟩
        · omega
        · exact h2
      have HNO : Hid (∀ j, j < Ls.length → eqS (ledAt Ls j).name e.oly = false) := hno
      clear hno
      go_wp2_with (at_builtin; refine wpList_append_lies _ rfl (.tmp 34) (.tmp 38) 28 rfl 0 43 i0 _ 13 200 Tryf.underlying28 hi0 hz0 hz1 hz2 rfl (by omega) (.slice va n vc) n (rows n fun i => mrC (MR.of (ledAt Ls i)) (x i)) rfl (HOWN.out _ _ HQT.out) ⟨wr.heap.size, 0, none⟩ 1 1 (mrC (MR.fresh e.oly) (fun _ => .slice none 0 0)) rfl rfl (World.news_of_block (heap_alloc_new wr _)) (by simp [Value.oneCell', mrC]) (by omega) (by unfold maxLen; omega) (by omega) (Nat.zero_le _) (wr.heap.size + 1) (by simp) ?_; intro g cap w4 hown4 hgr4 hat4 hlt4)
      go_meet
      have := Mid.pushed (H := wr.heap.size + 1) (g := g) (cap := cap) (w1 := w4) HMW.out HQT.out HNO.out (by rw [← HNL.out]; exact hown4) (by rw [HV.out, ← HNL.out]; exact hgr4) (by rw [HV.out, ← HNL.out]; exact hat4) rfl
      rw [← HF.out, ← HNL.out] at this
      exact this
    · go_wp2
      go_meet
      rcases HSC.out with ⟨k, rfl, h1, h2, h3⟩ | ⟨h1, _⟩
      · have := Mid.found HMW.out HQT.out h1 h2 h3
        rw [← HF.out, HV.out, ← HNL.out] at this
        exact this
      · omega
  case rest =>
    rename World => wa
    obtain ⟨g, cap, i, x1, rfl, rfl, hi, hmid, hfr⟩ := hcut
    clear HOWN HNL HMW HSC HQT HV
    have hiL : i < (withL Ls e.oly).length := by rw [hi]; exact placeOf_lt _ _
    have hLl : (withL Ls e.oly).length ≤ Ls.length + 1 := withL_length_le _ _
    obtain ⟨l, hl⟩ : ∃ l, l = (withL Ls e.oly).length := ⟨_, rfl⟩
    rw [← hl] at hiL
    have hl4 : l ≤ 4096 := by have := HOK.out.2.2; omega
    have HL : Hid (l = (withL Ls e.oly).length) := hl
    have hmok : (ledAt (withL Ls e.oly) i).Ok N := HOK.out.withL HE.out.oly _ (ledAt_mem (by rw [← hl]; exact hiL))
    obtain ⟨m, hm⟩ : ∃ m, m = ledAt (withL Ls e.oly) i := ⟨_, rfl⟩
    rw [← hm] at hmok
    have HMEQ : Hid (m = ledAt (withL Ls e.oly) i) := hm
    have HMOK : Hid (m.Ok N) := hmok
    have hEa : Blk wa w.heap.size #[.int .i64 e.kind, .string e.oly, .int .i64 e.at_, .string e.team, vt, .int .i64 e.task, .string e.comp, .bool e.force, .int .i64 e.sub, .int .i64 e.res, vn, vm, .int .i64 e.left, .bool e.frozen, vb, .int .i64 e.off, .int .i64 e.size] 32 := (hfr.block _ (by rw [HWZ.out]; omega) HNE.out).trans HEW.out
    have HEA : Hid (Blk wa w.heap.size #[.int .i64 e.kind, .string e.oly, .int .i64 e.at_, .string e.team, vt, .int .i64 e.task, .string e.comp, .bool e.force, .int .i64 e.sub, .int .i64 e.res, vn, vm, .int .i64 e.left, .bool e.frozen, vb, .int .i64 e.off, .int .i64 e.size] 32) := hEa
    have hmid2 : ModAt wa (.slice (some ⟨g, 0, none⟩) l cap) l (fun i => MR.of (ledAt (withL Ls e.oly) i)) x1 := by rw [hl]; exact hmid
    have HMID : Hid (ModAt wa (.slice (some ⟨g, 0, none⟩) l cap) l (fun i => MR.of (ledAt (withL Ls e.oly) i)) x1) := hmid2
    have hFa : Framed w (F) wa (foot (.slice (some ⟨g, 0, none⟩) l cap) l x1) := by rw [hl]; exact HWF.out.trans hfr
    have HFA : Hid (Framed w (F) wa (foot (.slice (some ⟨g, 0, none⟩) l cap) l x1)) := hFa
    have hElt : w.heap.size < wa.heap.size := hEa.lt
    have HST : Hid (stepAll Ls e = (withL Ls e.oly).set i (m.step e)) := by rw [hm, hi]; rfl
    have HRF : Hid (refAll Ls e = m.refB e) := by rw [hm, hi]; rfl
    have hnotE : ¬ foot (.slice (some ⟨g, 0, none⟩) l cap) l x1 w.heap.size := fun hf => by
      rcases hfr.inside w.heap.size (by rw [← hl]; exact hf) with h1 | h1
      · exact HNE.out h1
      · have := HWZ.out
        omega
    have HNOTE : Hid (¬ foot (.slice (some ⟨g, 0, none⟩) l cap) l x1 w.heap.size) := hnotE
    have k0 : wa.cell? ⟨w.heap.size, 0, none⟩ = some (.int .i64 e.kind) := hEa.cell 0
    rw [← hl]
    clear hmid hmid2 hfr hl hm hi hEa hFa HWF HEW hmok hLl e1 hnN hnotE
    have hrz : m.refuses e = false := by
      have := HRF.out
      rw [HREF0.out] at this
      unfold PLed.refB at this
      rw [HKD.out] at this
      simpa using this.symm
    have HREF : Hid (m.refuses e = false) := hrz
    clear hrz
    rw [HKD.out] at k0
    have a8 : wa.cell? ⟨w.heap.size, 8, none⟩ = some (.int .i64 e.sub) := HEA.out.cell 8
    obtain ⟨sa, sc, hvs⟩ := owns_form (HMID.out.own i 1 hiL (by omega))
    obtain ⟨sn, hsn⟩ : ∃ sn, sn = m.subs.length := ⟨_, rfl⟩
    have hvs' : x1 i 1 = .slice sa sn sc := by rw [hvs, hsn, HMEQ.out]; rfl
    have hsm : sn < 4096 := by rw [hsn]; exact Nat.lt_of_le_of_lt HMOK.out.subs hN
    have c8 : wa.cell? ⟨g, i * 13 + 8, none⟩ = some (.slice sa sn sc) := by rw [← hvs']; exact HMID.out.cell (p := 8) hiL (by omega)
    obtain ⟨h1, h2, h3, h4⟩ := PLed.refuses_not HREF.out
    obtain ⟨k, hk⟩ : ∃ k, k = (e.sub - 1).toNat := ⟨_, rfl⟩
    have hks : k < m.subs.length := by rw [hk]; exact h3
    have hkn : k < sn := by rw [hsn]; exact hks
    have hge : ¬ e.sub < 1 := by omega
    have hle : ¬ (sn : Int) < e.sub := by omega
    have hidx : e.sub - 1 = (k : Int) := by omega
    have o2 : wa.ownsRow 0 71 9 (.slice sa sn sc) sn (asubs m.subs) := by
      have := HMID.out.own i 1 hiL (by omega)
      rw [hvs', ← HMEQ.out] at this
      rw [hsn] at this ⊢
      exact this
    obtain ⟨gs, cs, hgs, _, hls⟩ := o2.form (by omega)
    cases hgs
    have hrow : ∀ q, q < 9 → wa.cell? ⟨gs, k * 9 + q, none⟩ = (asubC k (subAt m.subs k))[q]? := fun q hq => by
      rw [o2.cellAt (k * 9 + q) (by omega)]
      exact rows_get (s := 9) (f := fun i => asubC i (subAt m.subs i)) (p := q) m.subs.length (fun _ _ => rfl) hks hq
    obtain ⟨s, hs⟩ : ∃ s, s = subAt m.subs k := ⟨_, rfl⟩
    rw [← hs] at hrow
    have z0 : wa.cell? ⟨gs, k * 9, none⟩ = some (.int .i64 ((k : Int) + 1)) := hrow 0 (by omega)
    have z1 : wa.cell? ⟨gs, k * 9 + 1, none⟩ = some (.string s.team) := hrow 1 (by omega)
    have z2 : wa.cell? ⟨gs, k * 9 + 2, none⟩ = some (.string s.tid) := hrow 2 (by omega)
    have z3 : wa.cell? ⟨gs, k * 9 + 3, none⟩ = some (.int .i64 s.task) := hrow 3 (by omega)
    have z4 : wa.cell? ⟨gs, k * 9 + 4, none⟩ = some (.string s.comp) := hrow 4 (by omega)
    have z5 : wa.cell? ⟨gs, k * 9 + 5, none⟩ = some (.int .i64 s.off) := hrow 5 (by omega)
    have z6 : wa.cell? ⟨gs, k * 9 + 6, none⟩ = some (.int .i64 s.size) := hrow 6 (by omega)
    have z7 : wa.cell? ⟨gs, k * 9 + 7, none⟩ = some (.int .i64 s.mins) := hrow 7 (by omega)
    have z8 : wa.cell? ⟨gs, k * 9 + 8, none⟩ = some (.bool s.cnt) := hrow 8 (by omega)
    have HSS : Hid (s = subAt m.subs k) := hs
    have HKK : Hid (k = (e.sub - 1).toNat) := hk
    have HKS : Hid (k < m.subs.length) := hks
    have HVS : Hid (x1 i 1 = .slice (some ⟨gs, 0, none⟩) sn sc) := hvs'
    have hglt : g < wa.heap.size := (HMID.out.row.lt g rfl).2
    have hwk : IntKind.i64.wrap (k : Int) = (k : Int) := by rw [IntKind.wrap_i64]; omega
    have hki : (k : Int) < (sn : Int) := by omega
    clear hvs hvs' hsn h1 h2 h3 h4 hrow hs hk hks o2
    go_upto_region 24 with fail
    go_cut [145] from 133 to 144 (fun v145 wx => v145 = .bool false ∧ wx = wa.drew)
    case first =>
      go_region
      all_goals (go_wp2_with fail)
      all_goals go_meet
      all_goals exact ⟨rfl, rfl⟩
    case rest =>
    obtain ⟨rfl, rfl⟩ := hcut
    go_upto_region 26 with fail
    go_cut [12] from 147 to 155 (fun v12 wx => ∃ S, v12 = .pointer (some ⟨S, 0, none⟩) ∧ wa.heap.size ≤ S ∧ Blk wx S (asubC k s).toArray 71 ∧ Below wa.heap.size wa wx)
    case first =>
      go_region
      all_goals (go_wp2_with fail)
      all_goals go_meet
      all_goals exact ⟨wa.heap.size, rfl, Nat.le_refl _, Blk.new _ _ _, (((Below.refl _ _).alloc (Nat.le_refl _) _).drew).drew⟩
    case rest =>
    rename World => wb
    obtain ⟨S, rfl, hS1, hS2, hbb⟩ := hcut
    have hMb := HMID.out.below hbb
    have hEb := HEA.out.below hbb hElt
    have HSB : Hid (Blk wb S (asubC k s).toArray 71) := hS2
    have HMB : Hid (ModAt wb (.slice (some ⟨g, 0, none⟩) l cap) l (fun i => MR.of (ledAt (withL Ls e.oly) i)) x1) := hMb
    have HFB : Hid (Framed w F wb (foot (.slice (some ⟨g, 0, none⟩) l cap) l x1)) := HFA.out.trans (Framed.ofBelow hbb (Nat.le_refl _))
    have HEB : Hid _ := hEb
    have hnS : ¬ foot (.slice (some ⟨g, 0, none⟩) l cap) l x1 S := fun hf => by
      have := HMID.out.foot_lt hf
      omega
    have HNS : Hid (¬ foot (.slice (some ⟨g, 0, none⟩) l cap) l x1 S) := hnS
    have hSl : S < wb.heap.size := hS2.lt
    have hgb : g < wb.heap.size := (hMb.row.lt g rfl).2
    have hEl2 : w.heap.size < wb.heap.size := hEb.lt
    have y0 : wb.cell? ⟨S, 0, none⟩ = some (.int .i64 ((k : Int) + 1)) := hS2.cell 0
    obtain ⟨qa, qc, hvq⟩ := owns_form (hMb.own i 3 hiL (by omega))
    obtain ⟨qn, hqn⟩ : ∃ qn, qn = m.queue.length := ⟨_, rfl⟩
    have hvq' : x1 i 3 = .slice qa qn qc := by rw [hvq, hqn, HMEQ.out]; rfl
    have hqm : qn < 4096 := by rw [hqn]; exact Nat.lt_of_le_of_lt HMOK.out.queue hN
    have c10 : wb.cell? ⟨g, i * 13 + 10, none⟩ = some (.slice qa qn qc) := by rw [← hvq']; exact hMb.cell (p := 10) hiL (by omega)
    have f10 := hMb.frozen (i * 13 + 10)
    have hrd : ∀ (j q : Nat), m.queue[j]? = some q → ∃ gq, qa = some ⟨gq, 0, none⟩ ∧ gq < wb.heap.size ∧ wb.cell? ⟨gq, j, none⟩ = some (.int .i64 ((q : Int) + 1)) := fun j q hj => by
      have hjl := (List.getElem?_eq_some_iff.1 hj).1
      have o1 := hMb.own i 3 hiL (by omega)
      rw [hvq', ← HMEQ.out] at o1
      have o1' : wb.ownsRow 0 3 1 (.slice qa qn qc) qn (m.queue.map idV) := by rw [hqn] at o1 ⊢; exact o1
      obtain ⟨gq, cq, hgq, _, hlq⟩ := o1'.form (by omega)
      cases hgq
      refine ⟨gq, rfl, hlq, ?_⟩
      rw [o1'.cellAt j (by omega), List.getElem?_map, hj]
      rfl
    have HQN : Hid (qn = m.queue.length) := hqn
    have HVQ : Hid (x1 i 3 = .slice qa qn qc) := hvq'
    obtain ⟨j3, hj0, hy0, hy1, hy2⟩ := info_parts infoF3
    clear hS1 hS2 hbb hMb hEb hnS hvq hvq' hqn HVS hls hglt c8 a8 hge hle hidx hwk hki hkn hsm k0 hElt HMID HFA HEA z0 z1 z2 z3 z4 z5 z6 z7 z8
    go_wp2
    go_loopw [13, 14] (fun v1 vj wr => ∃ (t : Nat) (vq : Value), t ≤ qn ∧ vj = .int .i64 t ∧ vq = v1 ∧ Reb wb m.queue (fun i => i != k) t vq wr) (fun _ vj _ => qn - (intOf vj).toNat)
    case atStart => exact ⟨0, _, Nat.zero_le _, rfl, rfl, Reb.start _ _ _⟩
    case round =>
    obtain ⟨t, vq, ht, rfl, rfl, hreb⟩ := hrel
    have HREB : Hid _ := hreb
    have hbl := hreb.below
    have r10 : wr.cell? ⟨g, i * 13 + 10, none⟩ = some (.slice qa qn qc) := (hbl.cell (p := ⟨g, i * 13 + 10, none⟩) hgb).trans c10
    by_cases hlt : t < qn
    · obtain ⟨q, hqk⟩ : ∃ q, m.queue[t]? = some q := ⟨_, List.getElem?_eq_getElem (by rw [← HQN.out]; exact hlt)⟩
      obtain ⟨gq, rfl, l1, h4⟩ := hrd t q hqk
      have r0 : wr.cell? ⟨S, 0, none⟩ = some (.int .i64 ((k : Int) + 1)) := (hbl.cell (p := ⟨S, 0, none⟩) hSl).trans y0
      have rq : wr.cell? ⟨gq, t, none⟩ = some (.int .i64 ((q : Int) + 1)) := (hbl.cell (p := ⟨gq, t, none⟩) l1).trans h4
      have HQK : Hid (m.queue[t]? = some q) := hqk
      have hcl : ((m.queue.take t).filter fun i => i != k).length ≤ qn := Nat.le_trans (List.length_filter_le _ _) (by rw [List.length_take]; omega)
      obtain ⟨c, hc⟩ : ∃ c, c = ((m.queue.take t).filter fun i => i != k).length := ⟨_, rfl⟩
      rw [← hc] at hcl
      have HC : Hid (c = ((m.queue.take t).filter fun i => i != k).length) := hc
      have hownq : ∀ o, (wr.alloc o).drew.ownsRow 0 3 1 vq c (((m.queue.take t).filter fun i => i != k).map idV) := fun o => by
        have := hreb.own
        rw [← hc] at this
        exact (World.ownsRow.alloc (w := wr) this o).drew
      have HOWNQ : Hid _ := hownq
      clear hreb hbl hrd hqk hc hownq h4 c10 y0
      by_cases ha : q = k
      · have ha1 : ((q : Int) + 1 != (k : Int) + 1) = false := by simp [ha]
        have ha2 : (q : Int) = (k : Int) := by omega
        have HA : Hid (q = k) := ha
        clear ha
        go_wp2_with fail
        go_region
        go_wp2
        go_round
        case rel =>
          refine ⟨t + 1, _, by omega, by go_num, rfl, ?_⟩
          exact (HREB.out.quiet (wr' := wr.drew) ⟨rfl, rfl, rfl, rfl⟩).skip HQK.out (by rw [HA.out]; simp)
        case measure => simp [intOf]; omega
      · have ha1 : ((q : Int) + 1 != (k : Int) + 1) = true := by simp; omega
        have ha2 : ¬ (q : Int) = (k : Int) := by omega
        have HA : Hid (¬ q = k) := ha
        clear ha
        go_wp2_with fail
        go_region
        go_wp2_with (at_builtin; refine wpList_append_lies _ rfl (.tmp 175) (.tmp 183) 41 rfl 0 3 j3 _ 1 8 Tryf.underlying41 hj0 hy0 hy1 hy2 rfl (by omega) vq c _ rfl (HOWNQ.out _) ⟨wr.heap.size, 0, none⟩ 1 1 [.int .i64 ((q : Int) + 1)] rfl rfl (World.news_of_block (heap_alloc_new wr _)) (by simp [Value.oneCell']) (by omega) (by unfold maxLen; omega) (by omega) (Nat.zero_le _) (wr.heap.size + 1) (by simp) ?_; intro g4 cap4 w4 hown4 hgr4 hat4 hlt4)
        go_round
        case rel =>
          refine ⟨t + 1, _, by omega, by go_num, rfl, ?_⟩
          exact (HREB.out.quiet (wr' := wr.drew) ⟨rfl, rfl, rfl, rfl⟩).push HQK.out (by simpa using HA.out) HC.out hown4 (o := .cells #[.int .i64 ((q : Int) + 1)] 3) ⟨hgr4.os, hgr4.tape, hgr4.output, hgr4.size, hgr4.block⟩ hat4 rfl
        case measure => simp [intOf]; omega
    · obtain rfl : t = qn := by omega
      obtain ⟨va', vc', rfl⟩ := owns_form hreb.own
      have hg10 : wr.frozen? ⟨g, i * 13 + 10, none⟩ = false := (World.frozen?_of_block (a := ⟨g, i * 13 + 10, none⟩) (hbl.block g hgb)).trans f10
      have hown := hreb.own
      have htk : m.queue.take t = m.queue := List.take_of_length_le (by rw [HQN.out]; exact Nat.le_refl _)
      have FIN := ModI.turned (f := 3) (M := MR.of m) (M' := MR.of (queueM m k)) (MR.put_self _ i HMB.out (by rw [HMEQ.out]; exact MR.Eq6.refl _)) (Framed.refl _ _) hiL (by omega) (wr := wr) ⟨hbl.os, hbl.tape, hbl.output, hbl.size, fun b hb _ => hbl.block b hb⟩ hown (fun b hb => Or.inr (hreb.up b hb)) (by
        rw [htk]
        exact Eq6_cases (fun _ => rfl) ⟨rfl, rfl, rfl, rfl, rfl, rfl⟩ ⟨rfl, rfl, rfl, rfl, rfl, rfl⟩)
      have HFIN : Hid _ := FIN
      clear FIN hown hreb hbl hrd HREB hlt ht htk c10 y0 HQN HVQ
      generalize ((m.queue.take t).filter fun i => i != k).length = cn at HFIN
      go_upto_region 33 with fail
      go_cut [] from 185 to 188 (fun wx => ModI wb (foot (.slice (some ⟨g, 0, none⟩) l cap) l x1) (.slice (some ⟨g, 0, none⟩) l cap) l (fun i => MR.of (ledAt (withL Ls e.oly) i)) i (MR.of (queueM m k)) wx)
      case first =>
        go_wp2
        go_meet
        exact HFIN.out
      case rest =>
      rename World => wc
      have HMC : Hid (ModI wb (foot (.slice (some ⟨g, 0, none⟩) l cap) l x1) (.slice (some ⟨g, 0, none⟩) l cap) l (fun i => MR.of (ledAt (withL Ls e.oly) i)) i (MR.of (queueM m k)) wc) := hcut
      clear hcut HFIN hg10 r10 f10
      obtain ⟨x2, hm2, hf2⟩ := HMC.out
      have hSc := HMC.out.block HNS.out HSB.out
      have hEc := HMC.out.block HNOTE.out HEB.out
      have s1 : wc.cell? ⟨S, 1, none⟩ = some (.string s.team) := hSc.cell 1
      have s3 : wc.cell? ⟨S, 3, none⟩ = some (.int .i64 s.task) := hSc.cell 3
      have e9 : wc.cell? ⟨w.heap.size, 9, none⟩ = some (.int .i64 e.res) := hEc.cell 9
      obtain ⟨ka, kc, hvk⟩ := owns_form (hm2.own i 2 hiL (by omega))
      rw [put1_same] at hvk
      obtain ⟨kn, hkn⟩ : ∃ kn, kn = m.solved.length := ⟨_, rfl⟩
      have hvk' : x2 i 2 = .slice ka kn kc := by rw [hvk, hkn]; rfl
      have hkm : kn < 4096 := by rw [hkn]; exact Nat.lt_of_le_of_lt HMOK.out.solved hN
      have c9 : wc.cell? ⟨g, i * 13 + 9, none⟩ = some (.slice ka kn kc) := by rw [← hvk']; exact hm2.cell (p := 9) hiL (by omega)
      have hownk : wc.drew.ownsRow 0 68 2 (.slice ka kn kc) m.solved.length (keysC m.solved) := by
        have := hm2.own i 2 hiL (by omega)
        rw [hvk', put1_same] at this
        exact this
      have hhas := hasKey_any wc.drew (.slice ka kn kc) m.solved s.team s.task hownk (by rw [← hkn]; omega)
      have hSl2 := hSc.lt
      have hEl3 := hEc.lt
      have hgc : g < wc.heap.size := (hm2.row.lt g rfl).2
      obtain ⟨rs, hrs⟩ : ∃ rs, rs = e.res := ⟨_, rfl⟩
      rw [← hrs] at e9
      obtain ⟨zb, hzb⟩ : ∃ zb, zb = (rs == 0) := ⟨_, rfl⟩
      have hzb2 : zb = (e.res == 0) := by rw [hzb, hrs]
      have HZB : Hid (zb = (e.res == 0)) := hzb2
      clear hrs hzb2
      clear hm2 hf2 hSc hEc hvk hvk' hownk hkn hEl2 hSl hgb
      go_upto_region 34 with fail
      go_cut [204] from 189 to 203 (fun v wx => v = .bool (zb && !memK m.solved s.team s.task) ∧ Below wc.heap.size wc wx)
      case first =>
        cases zb
        · have hze : (rs == 0) = false := hzb.symm
          clear hzb
          go_region
          all_goals (go_wp2_with fail)
          all_goals go_meet
          all_goals exact ⟨rfl, ⟨rfl, rfl, rfl, Nat.le_refl _, fun _ _ => rfl⟩⟩
        · have hz3 : rs = 0 := by simpa using hzb.symm
          subst hz3
          clear hzb
          have HMK : Hid (∀ w', Below wc.heap.size wc w' → w'.cell? ⟨w.heap.size, 9, none⟩ = some (.int .i64 0) ∧ w'.cell? ⟨g, i * 13 + 9, none⟩ = some (.slice ka kn kc) ∧ w'.cell? ⟨S, 1, none⟩ = some (.string s.team) ∧ w'.cell? ⟨S, 3, none⟩ = some (.int .i64 s.task)) := fun w' hb => ⟨(hb.cell (p := ⟨w.heap.size, 9, none⟩) hEl3).trans e9, (hb.cell (p := ⟨g, i * 13 + 9, none⟩) hgc).trans c9, (hb.cell (p := ⟨S, 1, none⟩) hSl2).trans s1, (hb.cell (p := ⟨S, 3, none⟩) hSl2).trans s3⟩
          clear e9 c9 s1 s3
          have HHAS : Hid (Calls Tryf.prog 13 #[.slice ka kn kc, .agg #[.string s.team, .int .i64 s.task]] wc.drew (YesPost (memK m.solved s.team s.task) wc.drew)) := hhas
          clear hhas
          refine wp_region_noPanic ?_
          refine wp_region_held_drew (S := fun w' => w'.cell? ⟨w.heap.size, 9, none⟩ = some (.int .i64 0) ∧ w'.cell? ⟨g, i * 13 + 9, none⟩ = some (.slice ka kn kc) ∧ w'.cell? ⟨S, 1, none⟩ = some (.string s.team) ∧ w'.cell? ⟨S, 3, none⟩ = some (.int .i64 s.task)) (by kernel_rfl) (HMK.out _ (Below.refl _ _).drew) (fun hHeld => ?_)
          refine wpAnyH_take (i := 0) (oi := ⟨some 189, Op.fieldAddr 32 (Operand.tmp 3) 9, 0, _, _, none⟩) (v := ?v0c) rfl (by kernel_rfl) (by kernel_rfl) (by kernel_rfl) (fun _ _ _ h => h) (Or.inl ⟨by rfl, ?hy0c⟩) (by assumption) ?r0c
          case hy0c =>
            intro w hSw
            try dsimp only at hSw
            go_simp
            try with_reducible rfl
          simp only [Act.put, List.setIfInBounds_toArray, List.set_cons_zero, List.set_cons_succ]
          refine wpAnyH_take (i := 1) (oi := ⟨some 190, Op.load 3 (Operand.tmp 189), 3, _, _, none⟩) (v := ?v1c) rfl (by kernel_rfl) (by kernel_rfl) (by kernel_rfl) (fun _ _ _ h => h) (Or.inl ⟨by rfl, ?hy1c⟩) (by assumption) ?r1c
          case hy1c =>
            intro w hSw
            try dsimp only at hSw
            go_simp
            try with_reducible rfl
          simp only [Act.put, List.setIfInBounds_toArray, List.set_cons_zero, List.set_cons_succ]
          refine wpAnyH_take (i := 2) (oi := ⟨some 191, Op.binOp BinOp.eql 3 (Operand.tmp 190) (Operand.const (Value.int IntKind.i64 0)) 3, 4, _, _, none⟩) (v := ?v2c) rfl (by kernel_rfl) (by kernel_rfl) (by kernel_rfl) (fun _ _ _ h => h) (Or.inl ⟨by rfl, ?hy2c⟩) (by assumption) ?r2c
          case hy2c =>
            intro w hSw
            try dsimp only at hSw
            go_simp
            try with_reducible rfl
          simp only [Act.put, List.setIfInBounds_toArray, List.set_cons_zero, List.set_cons_succ]
          refine wpAnyH_take (i := 3) (oi := ⟨some 192, Op.move (Operand.tmp 191), 4, _, _, none⟩) (v := ?v3c) rfl (by kernel_rfl) (by kernel_rfl) (by kernel_rfl) (fun _ _ _ h => h) (Or.inl ⟨by rfl, ?hy3c⟩) (by assumption) ?r3c
          case hy3c =>
            intro w hSw
            try dsimp only at hSw
            go_simp
            try with_reducible rfl
          simp only [Act.put, List.setIfInBounds_toArray, List.set_cons_zero, List.set_cons_succ]
          refine wpAnyH_take (i := 4) (oi := ⟨some 193, Op.move (Operand.tmp 8), 37, _, _, some (3, true)⟩) (v := ?v4c) rfl (by kernel_rfl) (by kernel_rfl) (by kernel_rfl) (fun _ _ _ h => h) (Or.inl ⟨by rfl, ?hy4c⟩) (by assumption) ?r4c
          case hy4c =>
            intro w hSw
            try dsimp only at hSw
            go_simp
            try with_reducible rfl
          simp only [Act.put, List.setIfInBounds_toArray, List.set_cons_zero, List.set_cons_succ]
          refine wpAnyH_take (i := 5) (oi := ⟨some 194, Op.nilCheck (Operand.tmp 193), 0, _, _, some (3, true)⟩) (v := ?v5c) rfl (by kernel_rfl) (by kernel_rfl) (by kernel_rfl) (fun _ _ _ h => h) (Or.inl ⟨by rfl, ?hy5c⟩) (by assumption) ?r5c
          case hy5c =>
            intro w hSw
            try dsimp only at hSw
            go_simp
            try with_reducible rfl
          simp only [Act.put, List.setIfInBounds_toArray, List.set_cons_zero, List.set_cons_succ]
          refine wpAnyH_take (i := 6) (oi := ⟨some 195, Op.fieldAddr 43 (Operand.tmp 194) 9, 0, _, _, some (3, true)⟩) (v := ?v6c) rfl (by kernel_rfl) (by kernel_rfl) (by kernel_rfl) (fun _ _ _ h => h) (Or.inl ⟨by rfl, ?hy6c⟩) (by assumption) ?r6c
          case hy6c =>
            intro w hSw
            try dsimp only at hSw
            go_simp
            try with_reducible rfl
          simp only [Act.put, List.setIfInBounds_toArray, List.set_cons_zero, List.set_cons_succ]
          refine wpAnyH_take (i := 7) (oi := ⟨some 196, Op.load 40 (Operand.tmp 195), 40, _, _, some (3, true)⟩) (v := ?v7c) rfl (by kernel_rfl) (by kernel_rfl) (by kernel_rfl) (fun _ _ _ h => h) (Or.inl ⟨by rfl, ?hy7c⟩) (by assumption) ?r7c
          case hy7c =>
            intro w hSw
            try dsimp only at hSw
            go_simp
            try with_reducible rfl
          simp only [Act.put, List.setIfInBounds_toArray, List.set_cons_zero, List.set_cons_succ]
          refine wpAnyH_take (i := 8) (oi := ⟨some 197, Op.fieldAddr 71 (Operand.tmp 12) 1, 0, _, _, some (3, true)⟩) (v := ?v8c) rfl (by kernel_rfl) (by kernel_rfl) (by kernel_rfl) (fun _ _ _ h => h) (Or.inl ⟨by rfl, ?hy8c⟩) (by assumption) ?r8c
          case hy8c =>
            intro w hSw
            try dsimp only at hSw
            go_simp
            try with_reducible rfl
          simp only [Act.put, List.setIfInBounds_toArray, List.set_cons_zero, List.set_cons_succ]
          refine wpAnyH_take (i := 9) (oi := ⟨some 198, Op.load 9 (Operand.tmp 197), 9, _, _, some (3, true)⟩) (v := ?v9c) rfl (by kernel_rfl) (by kernel_rfl) (by kernel_rfl) (fun _ _ _ h => h) (Or.inl ⟨by rfl, ?hy9c⟩) (by assumption) ?r9c
          case hy9c =>
            intro w hSw
            try dsimp only at hSw
            go_simp
            try with_reducible rfl
          simp only [Act.put, List.setIfInBounds_toArray, List.set_cons_zero, List.set_cons_succ]
          refine wpAnyH_take (i := 10) (oi := ⟨some 199, Op.fieldAddr 71 (Operand.tmp 12) 3, 0, _, _, some (3, true)⟩) (v := ?v10c) rfl (by kernel_rfl) (by kernel_rfl) (by kernel_rfl) (fun _ _ _ h => h) (Or.inl ⟨by rfl, ?hy10c⟩) (by assumption) ?r10c
          case hy10c =>
            intro w hSw
            try dsimp only at hSw
            go_simp
            try with_reducible rfl
          simp only [Act.put, List.setIfInBounds_toArray, List.set_cons_zero, List.set_cons_succ]
          refine wpAnyH_take (i := 11) (oi := ⟨some 200, Op.load 2 (Operand.tmp 199), 2, _, _, some (3, true)⟩) (v := ?v11c) rfl (by kernel_rfl) (by kernel_rfl) (by kernel_rfl) (fun _ _ _ h => h) (Or.inl ⟨by rfl, ?hy11c⟩) (by assumption) ?r11c
          case hy11c =>
            intro w hSw
            try dsimp only at hSw
            go_simp
            try with_reducible rfl
          simp only [Act.put, List.setIfInBounds_toArray, List.set_cons_zero, List.set_cons_succ]
          refine wpAnyH_take (i := 12) (oi := ⟨some 201, Op.build 68 #[(0, Operand.tmp 198), (1, Operand.tmp 200)], 68, _, _, some (3, true)⟩) (v := ?v12c) rfl (by kernel_rfl) (by kernel_rfl) (by kernel_rfl) (fun _ _ _ h => h) (Or.inl ⟨by rfl, ?hy12c⟩) (by assumption) ?r12c
          case hy12c =>
            intro w hSw
            try dsimp only at hSw
            go_simp
            try with_reducible rfl
          simp only [Act.put, List.setIfInBounds_toArray, List.set_cons_zero, List.set_cons_succ]
          refine wpAnyH_ready (rs := [13]) (by kernel_rfl) (by simp) ?_
          refine AllReadyH.cons rfl (fun K hK => ?_) AllReadyH.nil
          go_simp
          refine Calls.mono HHAS.out ?_
          rintro e1 wy ⟨r, rfl, hr, hbel⟩
          have hbw : Below wc.heap.size wc wy := ⟨hbel.os, hbel.tape, hbel.output, hbel.size, hbel.block⟩
          show K _ _
          refine hK.out _ _ (HMK.out _ hbw) (fun hHeld2 => ?_)
          clear hK K hHeld
          try simp only [Act.put, List.setIfInBounds_toArray, List.set_cons_zero, List.set_cons_succ]
          refine wpAnyH_take (i := 14) (oi := ⟨some 203, Op.unOp UnOp.not 4 (Operand.tmp 202), 4, _, _, some (3, true)⟩) (v := ?v14c) rfl (by kernel_rfl) (by kernel_rfl) (by kernel_rfl) (fun _ _ _ h => h) (Or.inl ⟨by rfl, ?hy14c⟩) (by assumption) ?r14c
          case hy14c =>
            intro w hSw
            try dsimp only at hSw
            go_simp
            try with_reducible rfl
          simp only [Act.put, List.setIfInBounds_toArray, List.set_cons_zero, List.set_cons_succ]
          refine wpAnyH_take (i := 15) (oi := ⟨some 204, Op.pick (Operand.tmp 192) (Operand.tmp 203) (Operand.const (Value.bool false)), 4, _, _, none⟩) (v := ?v15c) rfl (by kernel_rfl) (by kernel_rfl) (by kernel_rfl) (fun _ _ _ h => h) (Or.inl ⟨by rfl, ?hy15c⟩) (by assumption) ?r15c
          case hy15c =>
            intro w hSw
            try dsimp only at hSw
            go_simp
            try with_reducible rfl
          simp only [Act.put, List.setIfInBounds_toArray, List.set_cons_zero, List.set_cons_succ]
          refine wpAnyH_done (by kernel_rfl) ?_ _
          refine NoPanic.normal ?_
          go_wp2_with fail
          all_goals go_meet
          all_goals exact ⟨rfl, hbw⟩
      case rest =>
      rename World => wd
      obtain ⟨rfl, hbel⟩ := hcut
      have HMD : Hid (ModI wb (foot (.slice (some ⟨g, 0, none⟩) l cap) l x1) (.slice (some ⟨g, 0, none⟩) l cap) l (fun i => MR.of (ledAt (withL Ls e.oly) i)) i (MR.of (queueM m k)) wd) := HMC.out.below hbel
      clear hbel hhas HMC c9 s1 s3 e9 hSl2 hEl3 hgc hkm hzb
      go_upto_if 204 with fail
      generalize hnb : (zb && !memK m.solved s.team s.task) = nb
      have HNB : Hid ((zb && !memK m.solved s.team s.task) = nb) := hnb
      clear hnb
      go_cut [] from 204 to 218 (fun wx => ModI wb (foot (.slice (some ⟨g, 0, none⟩) l cap) l x1) (.slice (some ⟨g, 0, none⟩) l cap) l (fun i => MR.of (ledAt (withL Ls e.oly) i)) i (MR.of (solveM (queueM m k) s.team s.task e.res)) wx)
      case first =>
        cases nb
        · have hsame : solveM (queueM m k) s.team s.task e.res = queueM m k := by
            unfold solveM
            by_cases hz : e.res = 0
            · rw [if_pos hz]
              have h1 := HNB.out
              rw [HZB.out, hz] at h1
              have h2 : memK m.solved s.team s.task = true := by simpa using h1
              show { queueM m k with solved := addK m.solved s.team s.task } = queueM m k
              rw [addK_old (memK_iff.1 h2)]
              rfl
            · rw [if_neg hz]
          have HSAME : Hid _ := hsame
          clear hsame
          go_wp2
          go_meet
          rw [HSAME.out]
          exact HMD.out
        · have h1 := HNB.out
          rw [Bool.and_eq_true] at h1
          have hz : e.res = 0 := by
            have := h1.1
            rw [HZB.out] at this
            simpa using this
          have hnm : ¬ (s.team, s.task) ∈ m.solved := fun hm => by
            have := h1.2
            rw [memK_iff.2 hm] at this
            simp at this
          have HZR : Hid (e.res = 0) := hz
          have HNM : Hid (¬ (s.team, s.task) ∈ m.solved) := hnm
          clear h1 hz hnm
          have hSd := HMD.out.block HNS.out HSB.out
          have s1 : wd.cell? ⟨S, 1, none⟩ = some (.string s.team) := hSd.cell 1
          have s3 : wd.cell? ⟨S, 3, none⟩ = some (.int .i64 s.task) := hSd.cell 3
          have hSl2 := hSd.lt
          clear hSd
          obtain ⟨xp, hmp, hfp⟩ := HMD.out
          obtain ⟨pa, pc, hvp⟩ := owns_form (hmp.own i 2 hiL (by omega))
          rw [put1_same] at hvp
          obtain ⟨pn, hpn⟩ : ∃ pn, pn = m.solved.length := ⟨_, rfl⟩
          have hvp' : xp i 2 = .slice pa pn pc := by rw [hvp, hpn]; rfl
          have hpm : pn < 4096 := by rw [hpn]; exact Nat.lt_of_le_of_lt HMOK.out.solved hN
          have dp : wd.cell? ⟨g, i * 13 + 9, none⟩ = some (.slice pa pn pc) := by rw [← hvp']; exact hmp.cell (p := 9) hiL (by omega)
          have hgX : g < wd.heap.size := (hmp.row.lt g rfl).2
          have hgp : (Value.slice pa pn pc).ownBlock ≠ some g := fun hb => by
            rw [← hvp'] at hb
            exact hmp.inner hiL (by omega) hb rfl
          have hownP : ∀ o, (wd.alloc o).drew.ownsRow 0 68 2 (.slice pa pn pc) pn (keysC m.solved) := fun o => by
            have := hmp.own i 2 hiL (by omega)
            rw [hvp', put1_same] at this
            have h1 : wd.ownsRow 0 68 2 (.slice pa pn pc) pn (keysC m.solved) := by rw [hpn] at this ⊢; exact this
            exact (h1.alloc o).drew
          have HKP : Hid (∀ o w', (wd.alloc o).drew.grownBy w' (Value.slice pa pn pc).ownBlock → w'.cell? ⟨g, i * 13 + 9, none⟩ = some (.slice pa pn pc) ∧ w'.frozen? ⟨g, i * 13 + 9, none⟩ = false) := fun o w' hgr => by
            have hbk : w'.heap[g]? = wd.heap[g]? := (hgr.block g (by simp; omega) (fun e => hgp e.symm)).trans (Below.heap_alloc _ _ _ hgX)
            exact ⟨(World.cell?_of_block (a := ⟨g, i * 13 + 9, none⟩) hbk).trans dp, (World.frozen?_of_block (a := ⟨g, i * 13 + 9, none⟩) hbk).trans (hmp.frozen _)⟩
          have HOWNP : Hid _ := hownP
          have HMP : Hid _ := hmp
          have HFP : Hid _ := hfp
          have HVP : Hid (xp i 2 = .slice pa pn pc) := hvp'
          have HPN : Hid (pn = m.solved.length) := hpn
          obtain ⟨jp, ip0, ip1, ip2, ip3⟩ := info_parts infoF68
          clear hmp hfp hvp hvp' hgp hownP hpn
          go_upto_region 35 with fail
          go_region_law (refine step_append_lies _ (by rfl) (.tmp 209) (.tmp 215) 40 (by rfl) 0 68 jp _ 2 24 Tryf.underlying40 ip0 ip1 ip2 ip3 (by rfl) (by omega) (.slice pa pn pc) pn (keysC m.solved) (by simp [Act.eval]) (HOWNP.out _) ⟨wd.heap.size, 0, none⟩ 1 1 [.string s.team, .int .i64 s.task] (by simp [Act.eval]) (by rfl) (World.news_of_block (heap_alloc_new wd _)) (by simp [Value.oneCell']) (by omega) (by unfold maxLen; omega) (by omega) (Nat.zero_le _) (wd.heap.size + 1) (by simp) ?_; intro g4 cap4 w4 hown4 hgr4 hat4 hlt4; obtain ⟨q1, f1⟩ := HKP.out _ _ hgr4)
          all_goals (go_wp2_with fail)
          all_goals go_meet
          all_goals (
            refine ModI.turned (f := 2) (M := MR.of (queueM m k)) (k' := pn + 1) (c' := keysC m.solved ++ [Value.string s.team, Value.int .i64 s.task]) HMP.out HFP.out hiL (by omega) (by rw [HVP.out]; exact grown_of_alloc ⟨hgr4.os, hgr4.tape, hgr4.output, hgr4.size, hgr4.block⟩) hown4 (fun b hb => ?_) ?_
            · obtain rfl : g4 = b := by simpa [Value.ownBlock] using hb
              rw [HVP.out]
              rcases hat4 with h1 | h1
              · exact Or.inl h1
              · exact Or.inr (by omega)
            · refine Eq6_cases (fun _ => rfl) ⟨rfl, rfl, ?_, rfl, rfl, rfl⟩ ⟨rfl, rfl, ?_, rfl, rfl, rfl⟩
              · show pn + 1 = (solveM (queueM m k) s.team s.task e.res).solved.length
                unfold solveM
                rw [if_pos HZR.out]
                show pn + 1 = (addK m.solved s.team s.task).length
                rw [addK_new HNM.out, HPN.out, List.length_append]
                rfl
              · show keysC m.solved ++ _ = keysC (solveM (queueM m k) s.team s.task e.res).solved
                unfold solveM
                rw [if_pos HZR.out]
                show keysC m.solved ++ _ = keysC (addK m.solved s.team s.task)
                rw [addK_new HNM.out, keysC_append]
                rfl)
      case rest =>
      rename World => we
      have HME : Hid (ModI wb (foot (.slice (some ⟨g, 0, none⟩) l cap) l x1) (.slice (some ⟨g, 0, none⟩) l cap) l (fun i => MR.of (ledAt (withL Ls e.oly) i)) i (MR.of (solveM (queueM m k) s.team s.task e.res)) we) := hcut
      clear hcut HMD HNB HZB
      have hSd := HME.out.block HNS.out HSB.out
      have s8 : we.cell? ⟨S, 8, none⟩ = some (.bool s.cnt) := hSd.cell 8
      have s0 : we.cell? ⟨S, 0, none⟩ = some (.int .i64 ((k : Int) + 1)) := hSd.cell 0
      have hSl2 := hSd.lt
      have hstep : m.step e = { (solveM (queueM m k) s.team s.task e.res) with recs := if s.cnt then m.recs ++ [(k, e.res)] else m.recs } := by
        have : m.step e = m.judgeAt k e.res := by unfold PLed.step PLed.judge; simp [HKD.out, HREF.out, HKK.out]
        rw [this, HSS.out]
        rfl
      have HSTEP : Hid _ := hstep
      have hrb : m.refB e = false := by unfold PLed.refB; rw [HREF.out]; simp
      have HRB : Hid (m.refB e = false) := hrb
      clear hSd hstep hrb
      cases hcb : s.cnt
      · rw [hcb] at s8
        have HCB : Hid (s.cnt = false) := hcb
        clear hcb
        go_wp2
        go_ret2
        exact ModI.fin HME.out HFB.out HL.out hiL HST.out HRF.out (by
          rw [HSTEP.out, HCB.out]
          exact MR.Eq6.refl _) HRB.out.symm
      · rw [hcb] at s8
        have HCB : Hid (s.cnt = true) := hcb
        clear hcb
        obtain ⟨rn, hrn⟩ : ∃ rn, rn = m.recs.length := ⟨_, rfl⟩
        have HRN : Hid (rn = m.recs.length) := hrn
        clear hrn
        go_upto_region 37 with fail
        go_cut [] from 221 to 231 (fun wx => ModI wb (foot (.slice (some ⟨g, 0, none⟩) l cap) l x1) (.slice (some ⟨g, 0, none⟩) l cap) l (fun i => MR.of (ledAt (withL Ls e.oly) i)) i ({ MR.of (solveM (queueM m k) s.team s.task e.res) with k := put1 (MR.of (solveM (queueM m k) s.team s.task e.res)).k 4 (rn + 1), c := put1 (MR.of (solveM (queueM m k) s.team s.task e.res)).c 4 ((m.recs.map fun r => idV r.1) ++ [.int .i64 ((k : Int) + 1)]) } : MR) wx)
        case first =>
          obtain ⟨xp, hmp, hfp⟩ := HME.out
          obtain ⟨pa, pc, hvp⟩ := owns_form (hmp.own i 4 hiL (by omega))
          rw [put1_same] at hvp
          obtain ⟨pn, hpn⟩ : ∃ pn, pn = m.recs.length := ⟨_, rfl⟩
          have hvp' : xp i 4 = .slice pa pn pc := by rw [hvp, hpn]; rfl
          have hpm : pn < 4096 := by rw [hpn]; exact Nat.lt_of_le_of_lt HMOK.out.recs hN
          have dp : we.cell? ⟨g, i * 13 + 11, none⟩ = some (.slice pa pn pc) := by rw [← hvp']; exact hmp.cell (p := 11) hiL (by omega)
          have hgX : g < we.heap.size := (hmp.row.lt g rfl).2
          have hgp : (Value.slice pa pn pc).ownBlock ≠ some g := fun hb => by
            rw [← hvp'] at hb
            exact hmp.inner hiL (by omega) hb rfl
          have hownP : ∀ o, (we.alloc o).drew.ownsRow 0 3 1 (.slice pa pn pc) pn (m.recs.map fun r => idV r.1) := fun o => by
            have := hmp.own i 4 hiL (by omega)
            rw [hvp', put1_same] at this
            have h1 : we.ownsRow 0 3 1 (.slice pa pn pc) pn (m.recs.map fun r => idV r.1) := by rw [hpn] at this ⊢; exact this
            exact (h1.alloc o).drew
          have HKP : Hid (∀ o w', (we.alloc o).drew.grownBy w' (Value.slice pa pn pc).ownBlock → w'.cell? ⟨g, i * 13 + 11, none⟩ = some (.slice pa pn pc) ∧ w'.frozen? ⟨g, i * 13 + 11, none⟩ = false) := fun o w' hgr => by
            have hbk : w'.heap[g]? = we.heap[g]? := (hgr.block g (by simp; omega) (fun e => hgp e.symm)).trans (Below.heap_alloc _ _ _ hgX)
            exact ⟨(World.cell?_of_block (a := ⟨g, i * 13 + 11, none⟩) hbk).trans dp, (World.frozen?_of_block (a := ⟨g, i * 13 + 11, none⟩) hbk).trans (hmp.frozen _)⟩
          have HOWNP : Hid _ := hownP
          have HMP : Hid _ := hmp
          have HFP : Hid _ := hfp
          have HVP : Hid (xp i 4 = .slice pa pn pc) := hvp'
          have HPN : Hid (pn = m.recs.length) := hpn
          obtain ⟨jp, ip0, ip1, ip2, ip3⟩ := info_parts infoF3
          clear hmp hfp hvp hvp' hgp hownP hpn
          go_region_law (refine step_append_lies _ (by rfl) (.tmp 225) (.tmp 228) 41 (by rfl) 0 3 jp _ 1 8 Tryf.underlying41 ip0 ip1 ip2 ip3 (by rfl) (by omega) (.slice pa pn pc) pn (m.recs.map fun r => idV r.1) (by simp [Act.eval]) (HOWNP.out _) ⟨we.heap.size, 0, none⟩ 1 1 [.int .i64 ((k : Int) + 1)] (by simp [Act.eval]) (by rfl) (World.news_of_block (heap_alloc_new we _)) (by simp [Value.oneCell']) (by omega) (by unfold maxLen; omega) (by omega) (Nat.zero_le _) (we.heap.size + 1) (by simp) ?_; intro g4 cap4 w4 hown4 hgr4 hat4 hlt4; obtain ⟨q1, f1⟩ := HKP.out _ _ hgr4)
          all_goals (go_wp2_with fail)
          all_goals go_meet
          all_goals (
            refine ModI.turned (f := 4) (M := MR.of (solveM (queueM m k) s.team s.task e.res)) (k' := pn + 1) (c' := (m.recs.map fun r => idV r.1) ++ [Value.int .i64 ((k : Int) + 1)]) HMP.out HFP.out hiL (by omega) (by rw [HVP.out]; exact grown_of_alloc ⟨hgr4.os, hgr4.tape, hgr4.output, hgr4.size, hgr4.block⟩) hown4 (fun b hb => ?_) ?_
            · obtain rfl : g4 = b := by simpa [Value.ownBlock] using hb
              rw [HVP.out]
              rcases hat4 with h1 | h1
              · exact Or.inl h1
              · exact Or.inr (by omega)
            · rw [HRN.out, HPN.out]
              exact MR.Eq6.refl _)
        case rest =>
        rename World => wf
        have HMF : Hid (ModI wb (foot (.slice (some ⟨g, 0, none⟩) l cap) l x1) (.slice (some ⟨g, 0, none⟩) l cap) l (fun i => MR.of (ledAt (withL Ls e.oly) i)) i ({ MR.of (solveM (queueM m k) s.team s.task e.res) with k := put1 (MR.of (solveM (queueM m k) s.team s.task e.res)).k 4 (rn + 1), c := put1 (MR.of (solveM (queueM m k) s.team s.task e.res)).c 4 ((m.recs.map fun r => idV r.1) ++ [.int .i64 ((k : Int) + 1)]) } : MR) wf) := hcut
        clear hcut HME s8 s0 hSl2
        have hEf := HMF.out.block HNOTE.out HEB.out
        have e9 : wf.cell? ⟨w.heap.size, 9, none⟩ = some (.int .i64 e.res) := hEf.cell 9
        have hEl3 := hEf.lt
        clear hEf
        obtain ⟨xp, hmp, hfp⟩ := HMF.out
        obtain ⟨pa, pc, hvp⟩ := owns_form (hmp.own i 5 hiL (by omega))
        rw [put1_same] at hvp
        obtain ⟨pn, hpn⟩ : ∃ pn, pn = m.recs.length := ⟨_, rfl⟩
        have hvp' : xp i 5 = .slice pa pn pc := by rw [hvp, hpn]; rfl
        have hpm : pn < 4096 := by rw [hpn]; exact Nat.lt_of_le_of_lt HMOK.out.recs hN
        have dp : wf.cell? ⟨g, i * 13 + 12, none⟩ = some (.slice pa pn pc) := by rw [← hvp']; exact hmp.cell (p := 12) hiL (by omega)
        have hgX : g < wf.heap.size := (hmp.row.lt g rfl).2
        have hgp : (Value.slice pa pn pc).ownBlock ≠ some g := fun hb => by
          rw [← hvp'] at hb
          exact hmp.inner hiL (by omega) hb rfl
        have hownP : ∀ o, (wf.alloc o).drew.ownsRow 0 3 1 (.slice pa pn pc) pn (m.recs.map fun r => Value.int .i64 r.2) := fun o => by
          have := hmp.own i 5 hiL (by omega)
          rw [hvp', put1_same] at this
          have h1 : wf.ownsRow 0 3 1 (.slice pa pn pc) pn (m.recs.map fun r => Value.int .i64 r.2) := by rw [hpn] at this ⊢; exact this
          exact (h1.alloc o).drew
        have HKP : Hid (∀ o w', (wf.alloc o).drew.grownBy w' (Value.slice pa pn pc).ownBlock → w'.cell? ⟨g, i * 13 + 12, none⟩ = some (.slice pa pn pc) ∧ w'.frozen? ⟨g, i * 13 + 12, none⟩ = false) := fun o w' hgr => by
          have hbk : w'.heap[g]? = wf.heap[g]? := (hgr.block g (by simp; omega) (fun e => hgp e.symm)).trans (Below.heap_alloc _ _ _ hgX)
          exact ⟨(World.cell?_of_block (a := ⟨g, i * 13 + 12, none⟩) hbk).trans dp, (World.frozen?_of_block (a := ⟨g, i * 13 + 12, none⟩) hbk).trans (hmp.frozen _)⟩
        have HOWNP : Hid _ := hownP
        have HMP : Hid _ := hmp
        have HFP : Hid _ := hfp
        have HVP : Hid (xp i 5 = .slice pa pn pc) := hvp'
        have HPN : Hid (pn = m.recs.length) := hpn
        obtain ⟨jp, ip0, ip1, ip2, ip3⟩ := info_parts infoF3
        clear hmp hfp hvp hvp' hgp hownP hpn
        go_upto_region 38 with fail
        go_region_law (refine step_append_lies _ (by rfl) (.tmp 236) (.tmp 239) 41 (by rfl) 0 3 jp _ 1 8 Tryf.underlying41 ip0 ip1 ip2 ip3 (by rfl) (by omega) (.slice pa pn pc) pn (m.recs.map fun r => Value.int .i64 r.2) (by simp [Act.eval]) (HOWNP.out _) ⟨wf.heap.size, 0, none⟩ 1 1 [.int .i64 e.res] (by simp [Act.eval]) (by rfl) (World.news_of_block (heap_alloc_new wf _)) (by simp [Value.oneCell']) (by omega) (by unfold maxLen; omega) (by omega) (Nat.zero_le _) (wf.heap.size + 1) (by simp) ?_; intro g4 cap4 w4 hown4 hgr4 hat4 hlt4; obtain ⟨q1, f1⟩ := HKP.out _ _ hgr4)
        all_goals (go_wp2_with fail)
        all_goals go_ret2
        all_goals (
          refine ModI.fin (M := MR.of (m.step e)) (ModI.turned (f := 5) (M := ({ MR.of (solveM (queueM m k) s.team s.task e.res) with k := put1 (MR.of (solveM (queueM m k) s.team s.task e.res)).k 4 (rn + 1), c := put1 (MR.of (solveM (queueM m k) s.team s.task e.res)).c 4 ((m.recs.map fun r => idV r.1) ++ [.int .i64 ((k : Int) + 1)]) } : MR)) (k' := pn + 1) (c' := (m.recs.map fun r => Value.int .i64 r.2) ++ [Value.int .i64 e.res]) HMP.out HFP.out hiL (by omega) (by rw [HVP.out]; exact grown_of_alloc ⟨hgr4.os, hgr4.tape, hgr4.output, hgr4.size, hgr4.block⟩) hown4 (fun b hb => ?_) ?_) HFB.out HL.out hiL HST.out HRF.out (MR.Eq6.refl _) HRB.out.symm
          · obtain rfl : g4 = b := by simpa [Value.ownBlock] using hb
            rw [HVP.out]
            rcases hat4 with h1 | h1
            · exact Or.inl h1
            · exact Or.inr (by omega)
          · rw [HSTEP.out, HCB.out]
            refine Eq6_cases (fun _ => rfl) ⟨rfl, rfl, rfl, rfl, ?_, ?_⟩ ⟨rfl, rfl, rfl, rfl, ?_, ?_⟩
            · show rn + 1 = (m.recs ++ [(k, e.res)]).length
              rw [HRN.out, List.length_append]
              rfl
            · show pn + 1 = (m.recs ++ [(k, e.res)]).length
              rw [HPN.out, List.length_append]
              rfl
            · show (m.recs.map fun r => idV r.1) ++ _ = (m.recs ++ [(k, e.res)]).map fun r => idV r.1
              rw [List.map_append]
              rfl
            · show (m.recs.map fun r => Value.int .i64 r.2) ++ _ = (m.recs ++ [(k, e.res)]).map fun r => Value.int .i64 r.2
              rw [List.map_append]
              rfl)
end Go.Proofs.Qxb6616853aFmt
