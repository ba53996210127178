import Derived.Test.Qxb6616853aFmtMpre
namespace Go.Proofs.Qxb6616853aFmt
open Go.RowKit
attribute [local go_sem ↓] Go.wp_at_zero Go.wp_at_succ

set_option maxRecDepth 100000 in
set_option maxHeartbeats 4000000 in
theorem step_k1 (w : World) (v : Value) (Ls : List PLed) (x : Nat → Nat → Value) (N : Nat) (e : PEv) (vt vn vm vb : Value) (h : IsMod w v Ls x) (hok : AllOk Ls N) (hN : N < 4096) (he : e.Ok) (hkd : e.kind = 1) :
    Calls Tryf.prog 8 #[v, .agg (evA e vt vn vm vb)] w (StepPost w (foot v Ls.length x) (stepAll Ls e) (refAll Ls e)) := by
  have HKD : Hid _ := hkd
  clear hkd
  obtain ⟨va, vc, hv⟩ := owns_form h.row
  obtain ⟨F, hF⟩ : ∃ F, F = foot v Ls.length x := ⟨_, rfl⟩
  rw [← hF]
  obtain ⟨W, hW⟩ : ∃ W, W = w.alloc (.cells (evA e vt vn vm vb) 32) := ⟨_, rfl⟩
  have hWb : Below w.heap.size w W := by rw [hW]; exact (Below.refl _ _).alloc (Nat.le_refl _) _
  have hWz : W.heap.size = w.heap.size + 1 := by rw [hW]; simp
  have hEW : Blk W w.heap.size (evA e vt vn vm vb) 32 := by rw [hW]; exact Blk.new _ _ _
  have hMW : IsMod W v Ls x := ModAt.below h hWb
  have hnE : ¬ F w.heap.size := fun hf => absurd (h.foot_lt (by rw [hF] at hf; exact hf)) (by omega)
  have hWF : Framed w (F) W (F) := Framed.ofBelow hWb (Nat.le_refl _)
  have hn4 : Ls.length < 4096 := Nat.lt_of_le_of_lt hok.2.2 hN
  obtain ⟨n, hn⟩ : ∃ n, n = Ls.length := ⟨_, rfl⟩
  have hq : ∀ i, i < n → ∃ g, va = some ⟨g, 0, none⟩ ∧ W.cell? ⟨g, i * 13, none⟩ = some (.string (ledAt Ls i).name) := fun i hi => by
    rcases hMW.row.form (by omega) with ⟨g, cap, hv', _⟩
    rw [hv] at hv'
    cases hv'
    refine ⟨g, rfl, ?_⟩
    have hc := hMW
    rw [hv] at hc
    exact hc.cell (i := i) (p := 0) (by omega) (by omega)
  have e1 : W.cell? ⟨w.heap.size, 1, none⟩ = some (.string e.oly) := hEW.cell 1
  have hownv : ∀ wr o, Quiet W wr → (wr.alloc o).ownsRow 0 43 13 (.slice va n vc) n (rows n fun i => mrC (MR.of (ledAt Ls i)) (x i)) := fun wr o hq' => by
    have := hMW.row
    rw [hv] at this
    rw [hn]
    have h2 : wr.ownsRow 0 43 13 (.slice va Ls.length vc) Ls.length (rows Ls.length fun i => mrC (MR.of (ledAt Ls i)) (x i)) := owns_of_block this (fun k _ => by rw [hq'.heap])
    exact h2.alloc o
  have HMW : Hid (IsMod W v Ls x) := hMW
  have HEW : Hid (Blk W w.heap.size (evA e vt vn vm vb) 32) := hEW
  have HW : Hid (W = w.alloc (.cells (evA e vt vn vm vb) 32)) := hW
  have HWF : Hid (Framed w (F) W (F)) := hWF
  have HWB : Hid (Below w.heap.size w W) := hWb
  have HWZ : Hid (W.heap.size = w.heap.size + 1) := hWz
  have HNE : Hid (¬ F w.heap.size) := hnE
  have HV : Hid (v = .slice va Ls.length vc) := hv
  have HF : Hid (F = foot v Ls.length x) := hF
  have HNL : Hid (n = Ls.length) := hn
  have HOK : Hid (AllOk Ls N) := hok
  have HE : Hid e.Ok := he
  have HOWN : Hid (∀ wr o, Quiet W wr → (wr.alloc o).ownsRow 0 43 13 (.slice va n vc) n (rows n fun i => mrC (MR.of (ledAt Ls i)) (x i))) := hownv
  have hnN : n < 4096 := by omega
  obtain ⟨i0, hi0, hz0, hz1, hz2⟩ := info_parts infoF43
  have hv2 : v = .slice va n vc := by rw [hn]; exact hv
  rw [hv2]
  clear hF hMW hEW hW hWF hWb hWz hnE hv hn hok he hv2 h hn4 hownv
  unfold evA at HW ⊢
  go_enter Tryf.func8, Tryf.ntmps8
  go_upto_region 1 with fail
  rw [← HW.out]
  clear HW
  go_upto_block 0 with fail
  go_cut [6, 7] from 17 to 31 (fun v6 v7 wx => ∃ z, v6 = .int .i64 z ∧ Quiet W wx ∧ Scan Ls e.oly z)
  case first =>
    go_wp2_with fail
    go_loopw [6, 7] (fun vi vj wr => ∃ k : Nat, k ≤ n ∧ vi = .int .i64 (-1) ∧ vj = .int .i64 k ∧ (∀ j, j < k → eqS (ledAt Ls j).name e.oly = false) ∧ Quiet W wr) (fun _ vj _ => n - (intOf vj).toNat)
    case atStart => exact ⟨0, Nat.zero_le _, rfl, rfl, fun j hj => absurd hj (Nat.not_lt_zero _), Quiet.refl _⟩
    case round =>
      obtain ⟨k, hk, rfl, rfl, hno, hqt⟩ := hrel
      have HNO : Hid (∀ j, j < k → eqS (ledAt Ls j).name e.oly = false) := hno
      have HQT : Hid (Quiet W wr) := hqt
      clear hno
      by_cases hlt : k < n
      · obtain ⟨g, rfl, hc1⟩ := hq k hlt
        rw [← hqt.cell] at hc1 e1
        clear hq hqt
        cases ha : eqS (ledAt Ls k).name e.oly
        · have ha1 : ((ledAt Ls k).name.toList == e.oly.toList) = false := ha
          have HA : Hid (eqS (ledAt Ls k).name e.oly = false) := ha
          clear ha
          go_wp2_with fail
          go_region
          go_wp2
          go_round
          case rel => exact ⟨k + 1, by omega, rfl, by go_num, fun j hj => by
            by_cases hjk : j = k
            · subst hjk
              exact HA.out
            · exact HNO.out j (by omega), HQT.out.trans ⟨rfl, rfl, rfl, rfl⟩⟩
          case measure => simp [intOf]; omega
        · have ha1 : ((ledAt Ls k).name.toList == e.oly.toList) = true := ha
          have HA : Hid (eqS (ledAt Ls k).name e.oly = true) := ha
          clear ha
          go_wp2_with fail
          go_region
          go_wp2
          go_meet
          exact ⟨k, rfl, HQT.out.trans ⟨rfl, rfl, rfl, rfl⟩, Or.inl ⟨k, rfl, by rw [← HNL.out]; exact hlt, HNO.out, HA.out⟩⟩
      · obtain rfl : k = n := by omega
        clear hq hlt hk hqt
        go_wp2
        go_meet
        exact ⟨-1, rfl, HQT.out, Or.inr ⟨rfl, by rw [← HNL.out]; exact HNO.out⟩⟩
  case rest =>
  rename World => wr
  obtain ⟨z, rfl, hqt, hsc⟩ := hcut
  have HQT : Hid (Quiet W wr) := hqt
  have HSC : Hid (Scan Ls e.oly z) := hsc
  rw [← hqt.cell] at e1
  clear hq hqt hsc
  go_upto_if 33 with fail
  go_cut [0, 6] from 32 to 42 (fun v0 v6 wx => Mid W (F) Ls e.oly v0 v6 wx)
  case first =>
    by_cases hz : z < 0
    · have hno : ∀ j, j < Ls.length → eqS (ledAt Ls j).name e.oly = false := by
        rcases HSC.out with ⟨k, rfl, _⟩ | ⟨_, h2⟩
        · omega
        · exact h2
      have HNO : Hid (∀ j, j < Ls.length → eqS (ledAt Ls j).name e.oly = false) := hno
      clear hno
      go_wp2_with (at_builtin; refine wpList_append_lies _ rfl (.tmp 34) (.tmp 38) 28 rfl 0 43 i0 _ 13 200 Tryf.underlying28 hi0 hz0 hz1 hz2 rfl (by omega) (.slice va n vc) n (rows n fun i => mrC (MR.of (ledAt Ls i)) (x i)) rfl (HOWN.out _ _ HQT.out) ⟨wr.heap.size, 0, none⟩ 1 1 (mrC (MR.fresh e.oly) (fun _ => .slice none 0 0)) rfl rfl (World.news_of_block (heap_alloc_new wr _)) (by simp [Value.oneCell', mrC]) (by omega) (by unfold maxLen; omega) (by omega) (Nat.zero_le _) (wr.heap.size + 1) (by simp) ?_; intro g cap w4 hown4 hgr4 hat4 hlt4)
      go_meet
      have := Mid.pushed (H := wr.heap.size + 1) (g := g) (cap := cap) (w1 := w4) HMW.out HQT.out HNO.out (by rw [← HNL.out]; exact hown4) (by rw [HV.out, ← HNL.out]; exact hgr4) (by rw [HV.out, ← HNL.out]; exact hat4) rfl
      rw [← HF.out, ← HNL.out] at this
      exact this
    · go_wp2
      go_meet
      rcases HSC.out with ⟨k, rfl, h1, h2, h3⟩ | ⟨h1, _⟩
      · have := Mid.found HMW.out HQT.out h1 h2 h3
        rw [← HF.out, HV.out, ← HNL.out] at this
        exact this
      · omega
  case rest =>
    rename World => wa
    obtain ⟨g, cap, i, x1, rfl, rfl, hi, hmid, hfr⟩ := hcut
    clear HOWN HNL HMW HSC HQT HF HV
    have hiL : i < (withL Ls e.oly).length := by rw [hi]; exact placeOf_lt _ _
    have hLl : (withL Ls e.oly).length ≤ Ls.length + 1 := withL_length_le _ _
    obtain ⟨l, hl⟩ : ∃ l, l = (withL Ls e.oly).length := ⟨_, rfl⟩
    rw [← hl] at hiL
    have hl4 : l ≤ 4096 := by have := HOK.out.2.2; omega
    have HL : Hid (l = (withL Ls e.oly).length) := hl
    have hmok : (ledAt (withL Ls e.oly) i).Ok N := HOK.out.withL HE.out.oly _ (ledAt_mem (by rw [← hl]; exact hiL))
    obtain ⟨m, hm⟩ : ∃ m, m = ledAt (withL Ls e.oly) i := ⟨_, rfl⟩
    rw [← hm] at hmok
    have HMEQ : Hid (m = ledAt (withL Ls e.oly) i) := hm
    have HMOK : Hid (m.Ok N) := hmok
    have hEa : Blk wa w.heap.size #[.int .i64 e.kind, .string e.oly, .int .i64 e.at_, .string e.team, vt, .int .i64 e.task, .string e.comp, .bool e.force, .int .i64 e.sub, .int .i64 e.res, vn, vm, .int .i64 e.left, .bool e.frozen, vb, .int .i64 e.off, .int .i64 e.size] 32 := (hfr.block _ (by rw [HWZ.out]; omega) HNE.out).trans HEW.out
    have HEA : Hid (Blk wa w.heap.size #[.int .i64 e.kind, .string e.oly, .int .i64 e.at_, .string e.team, vt, .int .i64 e.task, .string e.comp, .bool e.force, .int .i64 e.sub, .int .i64 e.res, vn, vm, .int .i64 e.left, .bool e.frozen, vb, .int .i64 e.off, .int .i64 e.size] 32) := hEa
    have hmid2 : ModAt wa (.slice (some ⟨g, 0, none⟩) l cap) l (fun i => MR.of (ledAt (withL Ls e.oly) i)) x1 := by rw [hl]; exact hmid
    have HMID : Hid (ModAt wa (.slice (some ⟨g, 0, none⟩) l cap) l (fun i => MR.of (ledAt (withL Ls e.oly) i)) x1) := hmid2
    have hFa : Framed w (F) wa (foot (.slice (some ⟨g, 0, none⟩) l cap) l x1) := by rw [hl]; exact HWF.out.trans hfr
    have HFA : Hid (Framed w (F) wa (foot (.slice (some ⟨g, 0, none⟩) l cap) l x1)) := hFa
    have hElt : w.heap.size < wa.heap.size := hEa.lt
    have HST : Hid (stepAll Ls e = (withL Ls e.oly).set i (m.step e)) := by rw [hm, hi]; rfl
    have HRF : Hid (refAll Ls e = m.refB e) := by rw [hm, hi]; rfl
    have hnotE : ¬ foot (.slice (some ⟨g, 0, none⟩) l cap) l x1 w.heap.size := fun hf => by
      rcases hfr.inside w.heap.size (by rw [← hl]; exact hf) with h1 | h1
      · exact HNE.out h1
      · have := HWZ.out
        omega
    have HNOTE : Hid (¬ foot (.slice (some ⟨g, 0, none⟩) l cap) l x1 w.heap.size) := hnotE
    have k0 : wa.cell? ⟨w.heap.size, 0, none⟩ = some (.int .i64 e.kind) := hEa.cell 0
    rw [← hl]
    clear hmid hmid2 hfr hl hm hi hEa hFa HWF HEW hmok hLl e1 hnN hnotE
    rw [HKD.out] at k0
    have k2 : wa.cell? ⟨w.heap.size, 2, none⟩ = some (.int .i64 e.at_) := HEA.out.cell 2
    have c2 : wa.cell? ⟨g, i * 13 + 2, none⟩ = some (.int .i64 m.st) := by rw [HMEQ.out]; exact HMID.out.cell (p := 2) hiL (by omega)
    have f2 := HMID.out.frozen (i * 13 + 2)
    obtain ⟨m0, r0⟩ := HMID.out.store hiL (p := 2) (u := .int .i64 e.at_) (m' := { MR.of m with st := e.at_ }) (by omega) (by rw [HMEQ.out]; rfl) (by rw [HMEQ.out]) (by rw [HMEQ.out])
    have r0 := HFA.out.trans r0
    have HM1 : Hid _ := m0
    have HR1 : Hid _ := r0
    clear m0 r0
    go_wp2
    go_ret2
    exact StepPost.fin HM1.out HR1.out HL.out hiL HST.out HRF.out (by
      have : m.step e = { m with st := e.at_ } := by unfold PLed.step; simp [HKD.out]
      rw [this]
      exact Eq6_cases (fun _ => rfl) ⟨rfl, rfl, rfl, rfl, rfl, rfl⟩ ⟨rfl, rfl, rfl, rfl, rfl, rfl⟩) (refB_not (by rw [HKD.out]; decide)).symm
set_option maxRecDepth 100000 in
set_option maxHeartbeats 4000000 in
theorem step_k4 (w : World) (v : Value) (Ls : List PLed) (x : Nat → Nat → Value) (N : Nat) (e : PEv) (vt vn vm vb : Value) (h : IsMod w v Ls x) (hok : AllOk Ls N) (hN : N < 4096) (he : e.Ok) (hkd : e.kind = 4) :
    Calls Tryf.prog 8 #[v, .agg (evA e vt vn vm vb)] w (StepPost w (foot v Ls.length x) (stepAll Ls e) (refAll Ls e)) := by
  have HKD : Hid _ := hkd
  clear hkd
  obtain ⟨va, vc, hv⟩ := owns_form h.row
  obtain ⟨F, hF⟩ : ∃ F, F = foot v Ls.length x := ⟨_, rfl⟩
  rw [← hF]
  obtain ⟨W, hW⟩ : ∃ W, W = w.alloc (.cells (evA e vt vn vm vb) 32) := ⟨_, rfl⟩
  have hWb : Below w.heap.size w W := by rw [hW]; exact (Below.refl _ _).alloc (Nat.le_refl _) _
  have hWz : W.heap.size = w.heap.size + 1 := by rw [hW]; simp
  have hEW : Blk W w.heap.size (evA e vt vn vm vb) 32 := by rw [hW]; exact Blk.new _ _ _
  have hMW : IsMod W v Ls x := ModAt.below h hWb
  have hnE : ¬ F w.heap.size := fun hf => absurd (h.foot_lt (by rw [hF] at hf; exact hf)) (by omega)
  have hWF : Framed w (F) W (F) := Framed.ofBelow hWb (Nat.le_refl _)
  have hn4 : Ls.length < 4096 := Nat.lt_of_le_of_lt hok.2.2 hN
  obtain ⟨n, hn⟩ : ∃ n, n = Ls.length := ⟨_, rfl⟩
  have hq : ∀ i, i < n → ∃ g, va = some ⟨g, 0, none⟩ ∧ W.cell? ⟨g, i * 13, none⟩ = some (.string (ledAt Ls i).name) := fun i hi => by
    rcases hMW.row.form (by omega) with ⟨g, cap, hv', _⟩
    rw [hv] at hv'
    cases hv'
    refine ⟨g, rfl, ?_⟩
    have hc := hMW
    rw [hv] at hc
    exact hc.cell (i := i) (p := 0) (by omega) (by omega)
  have e1 : W.cell? ⟨w.heap.size, 1, none⟩ = some (.string e.oly) := hEW.cell 1
  have hownv : ∀ wr o, Quiet W wr → (wr.alloc o).ownsRow 0 43 13 (.slice va n vc) n (rows n fun i => mrC (MR.of (ledAt Ls i)) (x i)) := fun wr o hq' => by
    have := hMW.row
    rw [hv] at this
    rw [hn]
    have h2 : wr.ownsRow 0 43 13 (.slice va Ls.length vc) Ls.length (rows Ls.length fun i => mrC (MR.of (ledAt Ls i)) (x i)) := owns_of_block this (fun k _ => by rw [hq'.heap])
    exact h2.alloc o
  have HMW : Hid (IsMod W v Ls x) := hMW
  have HEW : Hid (Blk W w.heap.size (evA e vt vn vm vb) 32) := hEW
  have HW : Hid (W = w.alloc (.cells (evA e vt vn vm vb) 32)) := hW
  have HWF : Hid (Framed w (F) W (F)) := hWF
  have HWB : Hid (Below w.heap.size w W) := hWb
  have HWZ : Hid (W.heap.size = w.heap.size + 1) := hWz
  have HNE : Hid (¬ F w.heap.size) := hnE
  have HV : Hid (v = .slice va Ls.length vc) := hv
  have HF : Hid (F = foot v Ls.length x) := hF
  have HNL : Hid (n = Ls.length) := hn
  have HOK : Hid (AllOk Ls N) := hok
  have HE : Hid e.Ok := he
  have HOWN : Hid (∀ wr o, Quiet W wr → (wr.alloc o).ownsRow 0 43 13 (.slice va n vc) n (rows n fun i => mrC (MR.of (ledAt Ls i)) (x i))) := hownv
  have hnN : n < 4096 := by omega
  obtain ⟨i0, hi0, hz0, hz1, hz2⟩ := info_parts infoF43
  have hv2 : v = .slice va n vc := by rw [hn]; exact hv
  rw [hv2]
  clear hF hMW hEW hW hWF hWb hWz hnE hv hn hok he hv2 h hn4 hownv
  unfold evA at HW ⊢
  go_enter Tryf.func8, Tryf.ntmps8
  go_upto_region 1 with fail
  rw [← HW.out]
  clear HW
  go_upto_block 0 with fail
  go_cut [6, 7] from 17 to 31 (fun v6 v7 wx => ∃ z, v6 = .int .i64 z ∧ Quiet W wx ∧ Scan Ls e.oly z)
  case first =>
    go_wp2_with fail
    go_loopw [6, 7] (fun vi vj wr => ∃ k : Nat, k ≤ n ∧ vi = .int .i64 (-1) ∧ vj = .int .i64 k ∧ (∀ j, j < k → eqS (ledAt Ls j).name e.oly = false) ∧ Quiet W wr) (fun _ vj _ => n - (intOf vj).toNat)
    case atStart => exact ⟨0, Nat.zero_le _, rfl, rfl, fun j hj => absurd hj (Nat.not_lt_zero _), Quiet.refl _⟩
    case round =>
      obtain ⟨k, hk, rfl, rfl, hno, hqt⟩ := hrel
      have HNO : Hid (∀ j, j < k → eqS (ledAt Ls j).name e.oly = false) := hno
      have HQT : Hid (Quiet W wr) := hqt
      clear hno
      by_cases hlt : k < n
      · obtain ⟨g, rfl, hc1⟩ := hq k hlt
        rw [← hqt.cell] at hc1 e1
        clear hq hqt
        cases ha : eqS (ledAt Ls k).name e.oly
        · have ha1 : ((ledAt Ls k).name.toList == e.oly.toList) = false := ha
          have HA : Hid (eqS (ledAt Ls k).name e.oly = false) := ha
          clear ha
          go_wp2_with fail
          go_region
          go_wp2
          go_round
          case rel => exact ⟨k + 1, by omega, rfl, by go_num, fun j hj => by
            by_cases hjk : j = k
            · subst hjk
              exact HA.out
            · exact HNO.out j (by omega), HQT.out.trans ⟨rfl, rfl, rfl, rfl⟩⟩
          case measure => simp [intOf]; omega
        · have ha1 : ((ledAt Ls k).name.toList == e.oly.toList) = true := ha
          have HA : Hid (eqS (ledAt Ls k).name e.oly = true) := ha
          clear ha
          go_wp2_with fail
          go_region
          go_wp2
          go_meet
          exact ⟨k, rfl, HQT.out.trans ⟨rfl, rfl, rfl, rfl⟩, Or.inl ⟨k, rfl, by rw [← HNL.out]; exact hlt, HNO.out, HA.out⟩⟩
      · obtain rfl : k = n := by omega
        clear hq hlt hk hqt
        go_wp2
        go_meet
        exact ⟨-1, rfl, HQT.out, Or.inr ⟨rfl, by rw [← HNL.out]; exact HNO.out⟩⟩
  case rest =>
  rename World => wr
  obtain ⟨z, rfl, hqt, hsc⟩ := hcut
  have HQT : Hid (Quiet W wr) := hqt
  have HSC : Hid (Scan Ls e.oly z) := hsc
  rw [← hqt.cell] at e1
  clear hq hqt hsc
  go_upto_if 33 with fail
  go_cut [0, 6] from 32 to 42 (fun v0 v6 wx => Mid W (F) Ls e.oly v0 v6 wx)
  case first =>
    by_cases hz : z < 0
    · have hno : ∀ j, j < Ls.length → eqS (ledAt Ls j).name e.oly = false := by
        rcases HSC.out with ⟨k, rfl, _⟩ | ⟨_, h2⟩
        · omega
        · exact h2
      have HNO : Hid (∀ j, j < Ls.length → eqS (ledAt Ls j).name e.oly = false) := hno
      clear hno
      go_wp2_with (at_builtin; refine wpList_append_lies _ rfl (.tmp 34) (.tmp 38) 28 rfl 0 43 i0 _ 13 200 Tryf.underlying28 hi0 hz0 hz1 hz2 rfl (by omega) (.slice va n vc) n (rows n fun i => mrC (MR.of (ledAt Ls i)) (x i)) rfl (HOWN.out _ _ HQT.out) ⟨wr.heap.size, 0, none⟩ 1 1 (mrC (MR.fresh e.oly) (fun _ => .slice none 0 0)) rfl rfl (World.news_of_block (heap_alloc_new wr _)) (by simp [Value.oneCell', mrC]) (by omega) (by unfold maxLen; omega) (by omega) (Nat.zero_le _) (wr.heap.size + 1) (by simp) ?_; intro g cap w4 hown4 hgr4 hat4 hlt4)
      go_meet
      have := Mid.pushed (H := wr.heap.size + 1) (g := g) (cap := cap) (w1 := w4) HMW.out HQT.out HNO.out (by rw [← HNL.out]; exact hown4) (by rw [HV.out, ← HNL.out]; exact hgr4) (by rw [HV.out, ← HNL.out]; exact hat4) rfl
      rw [← HF.out, ← HNL.out] at this
      exact this
    · go_wp2
      go_meet
      rcases HSC.out with ⟨k, rfl, h1, h2, h3⟩ | ⟨h1, _⟩
      · have := Mid.found HMW.out HQT.out h1 h2 h3
        rw [← HF.out, HV.out, ← HNL.out] at this
        exact this
      · omega
  case rest =>
    rename World => wa
    obtain ⟨g, cap, i, x1, rfl, rfl, hi, hmid, hfr⟩ := hcut
    clear HOWN HNL HMW HSC HQT HF HV
    have hiL : i < (withL Ls e.oly).length := by rw [hi]; exact placeOf_lt _ _
    have hLl : (withL Ls e.oly).length ≤ Ls.length + 1 := withL_length_le _ _
    obtain ⟨l, hl⟩ : ∃ l, l = (withL Ls e.oly).length := ⟨_, rfl⟩
    rw [← hl] at hiL
    have hl4 : l ≤ 4096 := by have := HOK.out.2.2; omega
    have HL : Hid (l = (withL Ls e.oly).length) := hl
    have hmok : (ledAt (withL Ls e.oly) i).Ok N := HOK.out.withL HE.out.oly _ (ledAt_mem (by rw [← hl]; exact hiL))
    obtain ⟨m, hm⟩ : ∃ m, m = ledAt (withL Ls e.oly) i := ⟨_, rfl⟩
    rw [← hm] at hmok
    have HMEQ : Hid (m = ledAt (withL Ls e.oly) i) := hm
    have HMOK : Hid (m.Ok N) := hmok
    have hEa : Blk wa w.heap.size #[.int .i64 e.kind, .string e.oly, .int .i64 e.at_, .string e.team, vt, .int .i64 e.task, .string e.comp, .bool e.force, .int .i64 e.sub, .int .i64 e.res, vn, vm, .int .i64 e.left, .bool e.frozen, vb, .int .i64 e.off, .int .i64 e.size] 32 := (hfr.block _ (by rw [HWZ.out]; omega) HNE.out).trans HEW.out
    have HEA : Hid (Blk wa w.heap.size #[.int .i64 e.kind, .string e.oly, .int .i64 e.at_, .string e.team, vt, .int .i64 e.task, .string e.comp, .bool e.force, .int .i64 e.sub, .int .i64 e.res, vn, vm, .int .i64 e.left, .bool e.frozen, vb, .int .i64 e.off, .int .i64 e.size] 32) := hEa
    have hmid2 : ModAt wa (.slice (some ⟨g, 0, none⟩) l cap) l (fun i => MR.of (ledAt (withL Ls e.oly) i)) x1 := by rw [hl]; exact hmid
    have HMID : Hid (ModAt wa (.slice (some ⟨g, 0, none⟩) l cap) l (fun i => MR.of (ledAt (withL Ls e.oly) i)) x1) := hmid2
    have hFa : Framed w (F) wa (foot (.slice (some ⟨g, 0, none⟩) l cap) l x1) := by rw [hl]; exact HWF.out.trans hfr
    have HFA : Hid (Framed w (F) wa (foot (.slice (some ⟨g, 0, none⟩) l cap) l x1)) := hFa
    have hElt : w.heap.size < wa.heap.size := hEa.lt
    have HST : Hid (stepAll Ls e = (withL Ls e.oly).set i (m.step e)) := by rw [hm, hi]; rfl
    have HRF : Hid (refAll Ls e = m.refB e) := by rw [hm, hi]; rfl
    have hnotE : ¬ foot (.slice (some ⟨g, 0, none⟩) l cap) l x1 w.heap.size := fun hf => by
      rcases hfr.inside w.heap.size (by rw [← hl]; exact hf) with h1 | h1
      · exact HNE.out h1
      · have := HWZ.out
        omega
    have HNOTE : Hid (¬ foot (.slice (some ⟨g, 0, none⟩) l cap) l x1 w.heap.size) := hnotE
    have k0 : wa.cell? ⟨w.heap.size, 0, none⟩ = some (.int .i64 e.kind) := hEa.cell 0
    rw [← hl]
    clear hmid hmid2 hfr hl hm hi hEa hFa HWF HEW hmok hLl e1 hnN hnotE
    rw [HKD.out] at k0
    have k2 : wa.cell? ⟨w.heap.size, 2, none⟩ = some (.int .i64 e.at_) := HEA.out.cell 2
    have c3 : wa.cell? ⟨g, i * 13 + 3, none⟩ = some (.int .i64 m.en) := by rw [HMEQ.out]; exact HMID.out.cell (p := 3) hiL (by omega)
    have f3 := HMID.out.frozen (i * 13 + 3)
    obtain ⟨m0, r0⟩ := HMID.out.store hiL (p := 3) (u := .int .i64 e.at_) (m' := { MR.of m with en := e.at_ }) (by omega) (by rw [HMEQ.out]; rfl) (by rw [HMEQ.out]) (by rw [HMEQ.out])
    have r0 := HFA.out.trans r0
    have HM1 : Hid _ := m0
    have HR1 : Hid _ := r0
    clear m0 r0
    go_wp2
    go_ret2
    exact StepPost.fin HM1.out HR1.out HL.out hiL HST.out HRF.out (by
      have : m.step e = { m with en := e.at_ } := by unfold PLed.step; simp [HKD.out]
      rw [this]
      exact Eq6_cases (fun _ => rfl) ⟨rfl, rfl, rfl, rfl, rfl, rfl⟩ ⟨rfl, rfl, rfl, rfl, rfl, rfl⟩) (refB_not (by rw [HKD.out]; decide)).symm
set_option maxRecDepth 100000 in
set_option maxHeartbeats 4000000 in
theorem step_k5 (w : World) (v : Value) (Ls : List PLed) (x : Nat → Nat → Value) (N : Nat) (e : PEv) (vt vn vm vb : Value) (h : IsMod w v Ls x) (hok : AllOk Ls N) (hN : N < 4096) (he : e.Ok) (hkd : e.kind = 5) :
    Calls Tryf.prog 8 #[v, .agg (evA e vt vn vm vb)] w (StepPost w (foot v Ls.length x) (stepAll Ls e) (refAll Ls e)) := by
  have HKD : Hid _ := hkd
  clear hkd
  obtain ⟨va, vc, hv⟩ := owns_form h.row
  obtain ⟨F, hF⟩ : ∃ F, F = foot v Ls.length x := ⟨_, rfl⟩
  rw [← hF]
  obtain ⟨W, hW⟩ : ∃ W, W = w.alloc (.cells (evA e vt vn vm vb) 32) := ⟨_, rfl⟩
  have hWb : Below w.heap.size w W := by rw [hW]; exact (Below.refl _ _).alloc (Nat.le_refl _) _
  have hWz : W.heap.size = w.heap.size + 1 := by rw [hW]; simp
  have hEW : Blk W w.heap.size (evA e vt vn vm vb) 32 := by rw [hW]; exact Blk.new _ _ _
  have hMW : IsMod W v Ls x := ModAt.below h hWb
  have hnE : ¬ F w.heap.size := fun hf => absurd (h.foot_lt (by rw [hF] at hf; exact hf)) (by omega)
  have hWF : Framed w (F) W (F) := Framed.ofBelow hWb (Nat.le_refl _)
  have hn4 : Ls.length < 4096 := Nat.lt_of_le_of_lt hok.2.2 hN
  obtain ⟨n, hn⟩ : ∃ n, n = Ls.length := ⟨_, rfl⟩
  have hq : ∀ i, i < n → ∃ g, va = some ⟨g, 0, none⟩ ∧ W.cell? ⟨g, i * 13, none⟩ = some (.string (ledAt Ls i).name) := fun i hi => by
    rcases hMW.row.form (by omega) with ⟨g, cap, hv', _⟩
    rw [hv] at hv'
    cases hv'
    refine ⟨g, rfl, ?_⟩
    have hc := hMW
    rw [hv] at hc
    exact hc.cell (i := i) (p := 0) (by omega) (by omega)
  have e1 : W.cell? ⟨w.heap.size, 1, none⟩ = some (.string e.oly) := hEW.cell 1
  have hownv : ∀ wr o, Quiet W wr → (wr.alloc o).ownsRow 0 43 13 (.slice va n vc) n (rows n fun i => mrC (MR.of (ledAt Ls i)) (x i)) := fun wr o hq' => by
    have := hMW.row
    rw [hv] at this
    rw [hn]
    have h2 : wr.ownsRow 0 43 13 (.slice va Ls.length vc) Ls.length (rows Ls.length fun i => mrC (MR.of (ledAt Ls i)) (x i)) := owns_of_block this (fun k _ => by rw [hq'.heap])
    exact h2.alloc o
  have HMW : Hid (IsMod W v Ls x) := hMW
  have HEW : Hid (Blk W w.heap.size (evA e vt vn vm vb) 32) := hEW
  have HW : Hid (W = w.alloc (.cells (evA e vt vn vm vb) 32)) := hW
  have HWF : Hid (Framed w (F) W (F)) := hWF
  have HWB : Hid (Below w.heap.size w W) := hWb
  have HWZ : Hid (W.heap.size = w.heap.size + 1) := hWz
  have HNE : Hid (¬ F w.heap.size) := hnE
  have HV : Hid (v = .slice va Ls.length vc) := hv
  have HF : Hid (F = foot v Ls.length x) := hF
  have HNL : Hid (n = Ls.length) := hn
  have HOK : Hid (AllOk Ls N) := hok
  have HE : Hid e.Ok := he
  have HOWN : Hid (∀ wr o, Quiet W wr → (wr.alloc o).ownsRow 0 43 13 (.slice va n vc) n (rows n fun i => mrC (MR.of (ledAt Ls i)) (x i))) := hownv
  have hnN : n < 4096 := by omega
  obtain ⟨i0, hi0, hz0, hz1, hz2⟩ := info_parts infoF43
  have hv2 : v = .slice va n vc := by rw [hn]; exact hv
  rw [hv2]
  clear hF hMW hEW hW hWF hWb hWz hnE hv hn hok he hv2 h hn4 hownv
  unfold evA at HW ⊢
  go_enter Tryf.func8, Tryf.ntmps8
  go_upto_region 1 with fail
  rw [← HW.out]
  clear HW
  go_upto_block 0 with fail
  go_cut [6, 7] from 17 to 31 (fun v6 v7 wx => ∃ z, v6 = .int .i64 z ∧ Quiet W wx ∧ Scan Ls e.oly z)
  case first =>
    go_wp2_with fail
    go_loopw [6, 7] (fun vi vj wr => ∃ k : Nat, k ≤ n ∧ vi = .int .i64 (-1) ∧ vj = .int .i64 k ∧ (∀ j, j < k → eqS (ledAt Ls j).name e.oly = false) ∧ Quiet W wr) (fun _ vj _ => n - (intOf vj).toNat)
    case atStart => exact ⟨0, Nat.zero_le _, rfl, rfl, fun j hj => absurd hj (Nat.not_lt_zero _), Quiet.refl _⟩
    case round =>
      obtain ⟨k, hk, rfl, rfl, hno, hqt⟩ := hrel
      have HNO : Hid (∀ j, j < k → eqS (ledAt Ls j).name e.oly = false) := hno
      have HQT : Hid (Quiet W wr) := hqt
      clear hno
      by_cases hlt : k < n
      · obtain ⟨g, rfl, hc1⟩ := hq k hlt
        rw [← hqt.cell] at hc1 e1
        clear hq hqt
        cases ha : eqS (ledAt Ls k).name e.oly
        · have ha1 : ((ledAt Ls k).name.toList == e.oly.toList) = false := ha
          have HA : Hid (eqS (ledAt Ls k).name e.oly = false) := ha
          clear ha
          go_wp2_with fail
          go_region
          go_wp2
          go_round
          case rel => exact ⟨k + 1, by omega, rfl, by go_num, fun j hj => by
            by_cases hjk : j = k
            · subst hjk
              exact HA.out
            · exact HNO.out j (by omega), HQT.out.trans ⟨rfl, rfl, rfl, rfl⟩⟩
          case measure => simp [intOf]; omega
        · have ha1 : ((ledAt Ls k).name.toList == e.oly.toList) = true := ha
          have HA : Hid (eqS (ledAt Ls k).name e.oly = true) := ha
          clear ha
          go_wp2_with fail
          go_region
          go_wp2
          go_meet
          exact ⟨k, rfl, HQT.out.trans ⟨rfl, rfl, rfl, rfl⟩, Or.inl ⟨k, rfl, by rw [← HNL.out]; exact hlt, HNO.out, HA.out⟩⟩
      · obtain rfl : k = n := by omega
        clear hq hlt hk hqt
        go_wp2
        go_meet
        exact ⟨-1, rfl, HQT.out, Or.inr ⟨rfl, by rw [← HNL.out]; exact HNO.out⟩⟩
  case rest =>
  rename World => wr
  obtain ⟨z, rfl, hqt, hsc⟩ := hcut
  have HQT : Hid (Quiet W wr) := hqt
  have HSC : Hid (Scan Ls e.oly z) := hsc
  rw [← hqt.cell] at e1
  clear hq hqt hsc
  go_upto_if 33 with fail
  go_cut [0, 6] from 32 to 42 (fun v0 v6 wx => Mid W (F) Ls e.oly v0 v6 wx)
  case first =>
    by_cases hz : z < 0
    · have hno : ∀ j, j < Ls.length → eqS (ledAt Ls j).name e.oly = false := by
        rcases HSC.out with ⟨k, rfl, _⟩ | ⟨_, h2⟩
        · omega
        · exact h2
      have HNO : Hid (∀ j, j < Ls.length → eqS (ledAt Ls j).name e.oly = false) := hno
      clear hno
      go_wp2_with (at_builtin; refine wpList_append_lies _ rfl (.tmp 34) (.tmp 38) 28 rfl 0 43 i0 _ 13 200 Tryf.underlying28 hi0 hz0 hz1 hz2 rfl (by omega) (.slice va n vc) n (rows n fun i => mrC (MR.of (ledAt Ls i)) (x i)) rfl (HOWN.out _ _ HQT.out) ⟨wr.heap.size, 0, none⟩ 1 1 (mrC (MR.fresh e.oly) (fun _ => .slice none 0 0)) rfl rfl (World.news_of_block (heap_alloc_new wr _)) (by simp [Value.oneCell', mrC]) (by omega) (by unfold maxLen; omega) (by omega) (Nat.zero_le _) (wr.heap.size + 1) (by simp) ?_; intro g cap w4 hown4 hgr4 hat4 hlt4)
      go_meet
      have := Mid.pushed (H := wr.heap.size + 1) (g := g) (cap := cap) (w1 := w4) HMW.out HQT.out HNO.out (by rw [← HNL.out]; exact hown4) (by rw [HV.out, ← HNL.out]; exact hgr4) (by rw [HV.out, ← HNL.out]; exact hat4) rfl
      rw [← HF.out, ← HNL.out] at this
      exact this
    · go_wp2
      go_meet
      rcases HSC.out with ⟨k, rfl, h1, h2, h3⟩ | ⟨h1, _⟩
      · have := Mid.found HMW.out HQT.out h1 h2 h3
        rw [← HF.out, HV.out, ← HNL.out] at this
        exact this
      · omega
  case rest =>
    rename World => wa
    obtain ⟨g, cap, i, x1, rfl, rfl, hi, hmid, hfr⟩ := hcut
    clear HOWN HNL HMW HSC HQT HF HV
    have hiL : i < (withL Ls e.oly).length := by rw [hi]; exact placeOf_lt _ _
    have hLl : (withL Ls e.oly).length ≤ Ls.length + 1 := withL_length_le _ _
    obtain ⟨l, hl⟩ : ∃ l, l = (withL Ls e.oly).length := ⟨_, rfl⟩
    rw [← hl] at hiL
    have hl4 : l ≤ 4096 := by have := HOK.out.2.2; omega
    have HL : Hid (l = (withL Ls e.oly).length) := hl
    have hmok : (ledAt (withL Ls e.oly) i).Ok N := HOK.out.withL HE.out.oly _ (ledAt_mem (by rw [← hl]; exact hiL))
    obtain ⟨m, hm⟩ : ∃ m, m = ledAt (withL Ls e.oly) i := ⟨_, rfl⟩
    rw [← hm] at hmok
    have HMEQ : Hid (m = ledAt (withL Ls e.oly) i) := hm
    have HMOK : Hid (m.Ok N) := hmok
    have hEa : Blk wa w.heap.size #[.int .i64 e.kind, .string e.oly, .int .i64 e.at_, .string e.team, vt, .int .i64 e.task, .string e.comp, .bool e.force, .int .i64 e.sub, .int .i64 e.res, vn, vm, .int .i64 e.left, .bool e.frozen, vb, .int .i64 e.off, .int .i64 e.size] 32 := (hfr.block _ (by rw [HWZ.out]; omega) HNE.out).trans HEW.out
    have HEA : Hid (Blk wa w.heap.size #[.int .i64 e.kind, .string e.oly, .int .i64 e.at_, .string e.team, vt, .int .i64 e.task, .string e.comp, .bool e.force, .int .i64 e.sub, .int .i64 e.res, vn, vm, .int .i64 e.left, .bool e.frozen, vb, .int .i64 e.off, .int .i64 e.size] 32) := hEa
    have hmid2 : ModAt wa (.slice (some ⟨g, 0, none⟩) l cap) l (fun i => MR.of (ledAt (withL Ls e.oly) i)) x1 := by rw [hl]; exact hmid
    have HMID : Hid (ModAt wa (.slice (some ⟨g, 0, none⟩) l cap) l (fun i => MR.of (ledAt (withL Ls e.oly) i)) x1) := hmid2
    have hFa : Framed w (F) wa (foot (.slice (some ⟨g, 0, none⟩) l cap) l x1) := by rw [hl]; exact HWF.out.trans hfr
    have HFA : Hid (Framed w (F) wa (foot (.slice (some ⟨g, 0, none⟩) l cap) l x1)) := hFa
    have hElt : w.heap.size < wa.heap.size := hEa.lt
    have HST : Hid (stepAll Ls e = (withL Ls e.oly).set i (m.step e)) := by rw [hm, hi]; rfl
    have HRF : Hid (refAll Ls e = m.refB e) := by rw [hm, hi]; rfl
    have hnotE : ¬ foot (.slice (some ⟨g, 0, none⟩) l cap) l x1 w.heap.size := fun hf => by
      rcases hfr.inside w.heap.size (by rw [← hl]; exact hf) with h1 | h1
      · exact HNE.out h1
      · have := HWZ.out
        omega
    have HNOTE : Hid (¬ foot (.slice (some ⟨g, 0, none⟩) l cap) l x1 w.heap.size) := hnotE
    have k0 : wa.cell? ⟨w.heap.size, 0, none⟩ = some (.int .i64 e.kind) := hEa.cell 0
    rw [← hl]
    clear hmid hmid2 hfr hl hm hi hEa hFa HWF HEW hmok hLl e1 hnN hnotE
    rw [HKD.out] at k0
    have k12 : wa.cell? ⟨w.heap.size, 12, none⟩ = some (.int .i64 e.left) := HEA.out.cell 12
    have c4 : wa.cell? ⟨g, i * 13 + 4, none⟩ = some (.int .i64 m.fz) := by rw [HMEQ.out]; exact HMID.out.cell (p := 4) hiL (by omega)
    have f4 := HMID.out.frozen (i * 13 + 4)
    have c5 : wa.cell? ⟨g, i * 13 + 5, none⟩ = some (.bool m.fzs) := by rw [HMEQ.out]; exact HMID.out.cell (p := 5) hiL (by omega)
    have f5 := HMID.out.frozen (i * 13 + 5)
    obtain ⟨m0, r0⟩ := HMID.out.store hiL (p := 4) (u := .int .i64 e.left) (m' := { MR.of m with fz := e.left }) (by omega) (by rw [HMEQ.out]; rfl) (by rw [HMEQ.out]) (by rw [HMEQ.out])
    have r0 := HFA.out.trans r0
    obtain ⟨m1, r1⟩ := m0.store hiL (p := 5) (u := .bool true) (m' := { { MR.of m with fz := e.left } with fzs := true }) (by omega) (by rw [put1_same]; rfl) (by rw [put1_same]) (by rw [put1_same])
    rw [put1_put1] at m1
    have r1 := r0.trans r1
    have HM1 : Hid _ := m1
    have HR1 : Hid _ := r1
    clear m0 r0 m1 r1
    go_wp2
    go_ret2
    exact StepPost.fin HM1.out HR1.out HL.out hiL HST.out HRF.out (by
      have : m.step e = { m with fz := e.left, fzs := true } := by unfold PLed.step; simp [HKD.out]
      rw [this]
      exact Eq6_cases (fun _ => rfl) ⟨rfl, rfl, rfl, rfl, rfl, rfl⟩ ⟨rfl, rfl, rfl, rfl, rfl, rfl⟩) (refB_not (by rw [HKD.out]; decide)).symm
end Go.Proofs.Qxb6616853aFmt
