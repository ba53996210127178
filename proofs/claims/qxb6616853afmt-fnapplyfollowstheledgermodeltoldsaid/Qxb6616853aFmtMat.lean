import Derived.Test.Qxb6616853aFmtAcc
import Derived.Test.Qxb6616853aFmtMpre
import Derived.Deep.RegionWith
import Derived.Deep.RegionHeld3
import Derived.Deep.CutRange
namespace Go.Proofs.Qxb6616853aFmt
open Go.RowKit
attribute [local go_sem ↓] Go.wp_at_zero Go.wp_at_succ

set_option maxRecDepth 100000 in
set_option maxHeartbeats 8000000 in
theorem matches_any (w : World) (H hm : Nat) (Ls : List PLed) (p : Nat → Nat) (G : Nat → Nat → Prop) (N g cap i : Nat) (x : Nat → Nat → Value) (hH : HubAt w 9 H hm Ls p G) (hM : IsMod w (.slice (some ⟨g, 0, none⟩) Ls.length cap) Ls x) (hok : AllOk Ls N) (hN : N ≤ 4096) (hi : i < Ls.length) :
    Calls Tryf.prog 10 #[.pointer (some ⟨H, 0, none⟩), .pointer (some ⟨g, i * 13, none⟩)] w (AccPost (.bool true) w) := by
  obtain ⟨m, hm'⟩ : ∃ m, m = ledAt Ls i := ⟨_, rfl⟩
  obtain ⟨L, hL⟩ : ∃ L, L = p i := ⟨_, rfl⟩
  have hmok : m.Ok N := by rw [hm']; exact hok.1 _ (ledAt_mem hi)
  have hled : IsLed w (G i) L m := by rw [hm', hL]; exact hH.led i hi
  have hled17 := accLedger w H hm Ls p G i m.name hH hi (by rw [hm']) hmok.nm
  rw [← hL] at hled17
  have hg : g < w.heap.size := (hM.row.lt g rfl).2
  have hown : ∀ f, f < 6 → w.ownsRow 0 (ety f) (esz f) (x i f) (ofK m f) (ofC m f) := fun f hf => by rw [hm']; exact hM.own i f hi hf
  have hrow : ∀ q, q < 13 → w.cell? ⟨g, i * 13 + q, none⟩ = (mrC (MR.of m) (x i))[q]? := fun q hq => by rw [hm']; exact ModAt.cell hM hi hq
  obtain ⟨da, dc, hv0⟩ := owns_form (hown 0 (by omega))
  obtain ⟨dn, hdn⟩ : ∃ dn, dn = m.disq.length := ⟨_, rfl⟩
  have hdnm : dn ≤ 4096 := by rw [hdn]; exact Nat.le_trans hmok.disq hN
  have hv0' : x i 0 = .slice da dn dc := by rw [hv0, hdn]; rfl
  obtain ⟨sa, sc, hv1⟩ := owns_form (hown 1 (by omega))
  obtain ⟨sn, hsn⟩ : ∃ sn, sn = m.subs.length := ⟨_, rfl⟩
  have hsnm : sn ≤ 4096 := by rw [hsn]; exact Nat.le_trans hmok.subs hN
  have hv1' : x i 1 = .slice sa sn sc := by rw [hv1, hsn]; rfl
  obtain ⟨ka, kc, hv2⟩ := owns_form (hown 2 (by omega))
  obtain ⟨kn, hkn⟩ : ∃ kn, kn = m.solved.length := ⟨_, rfl⟩
  have hknm : kn ≤ 4096 := by rw [hkn]; exact Nat.le_trans hmok.solved hN
  have hv2' : x i 2 = .slice ka kn kc := by rw [hv2, hkn]; rfl
  obtain ⟨qa, qc, hv3⟩ := owns_form (hown 3 (by omega))
  obtain ⟨qn, hqn⟩ : ∃ qn, qn = m.queue.length := ⟨_, rfl⟩
  have hqnm : qn ≤ 4096 := by rw [hqn]; exact Nat.le_trans hmok.queue hN
  have hv3' : x i 3 = .slice qa qn qc := by rw [hv3, hqn]; rfl
  obtain ⟨aa, ac, hv4⟩ := owns_form (hown 4 (by omega))
  obtain ⟨rn, hrn⟩ : ∃ rn, rn = m.recs.length := ⟨_, rfl⟩
  have hrnm : rn ≤ 4096 := by rw [hrn]; exact Nat.le_trans hmok.recs hN
  have hv4' : x i 4 = .slice aa rn ac := by rw [hv4, hrn]; rfl
  obtain ⟨ba, bc, hv5⟩ := owns_form (hown 5 (by omega))
  have hv5' : x i 5 = .slice ba rn bc := by rw [hv5, hrn]; rfl
  have HR0 : Hid (w.cell? ⟨g, i * 13, none⟩ = some (.string m.name)) := by
    have h1 : w.cell? ⟨g, i * 13 + 0, none⟩ = some (.string m.name) := hrow 0 (by omega)
    exact h1
  have HR1 : Hid (w.cell? ⟨g, i * 13 + 1, none⟩ = some (.slice da dn dc)) := by
    have h1 : w.cell? ⟨g, i * 13 + 1, none⟩ = some (.slice da dn dc) := by rw [← hv0']; exact hrow 1 (by omega)
    exact h1
  have HR2 : Hid (w.cell? ⟨g, i * 13 + 2, none⟩ = some (.int .i64 m.st)) := by
    have h1 : w.cell? ⟨g, i * 13 + 2, none⟩ = some (.int .i64 m.st) := hrow 2 (by omega)
    exact h1
  have HR3 : Hid (w.cell? ⟨g, i * 13 + 3, none⟩ = some (.int .i64 m.en)) := by
    have h1 : w.cell? ⟨g, i * 13 + 3, none⟩ = some (.int .i64 m.en) := hrow 3 (by omega)
    exact h1
  have HR4 : Hid (w.cell? ⟨g, i * 13 + 4, none⟩ = some (.int .i64 m.fz)) := by
    have h1 : w.cell? ⟨g, i * 13 + 4, none⟩ = some (.int .i64 m.fz) := hrow 4 (by omega)
    exact h1
  have HR5 : Hid (w.cell? ⟨g, i * 13 + 5, none⟩ = some (.bool m.fzs)) := by
    have h1 : w.cell? ⟨g, i * 13 + 5, none⟩ = some (.bool m.fzs) := hrow 5 (by omega)
    exact h1
  have HR6 : Hid (w.cell? ⟨g, i * 13 + 6, none⟩ = some (.bool m.fro)) := by
    have h1 : w.cell? ⟨g, i * 13 + 6, none⟩ = some (.bool m.fro) := hrow 6 (by omega)
    exact h1
  have HR7 : Hid (w.cell? ⟨g, i * 13 + 7, none⟩ = some (.int .i64 m.shown)) := by
    have h1 : w.cell? ⟨g, i * 13 + 7, none⟩ = some (.int .i64 m.shown) := hrow 7 (by omega)
    exact h1
  have HR8 : Hid (w.cell? ⟨g, i * 13 + 8, none⟩ = some (.slice sa sn sc)) := by
    have h1 : w.cell? ⟨g, i * 13 + 8, none⟩ = some (.slice sa sn sc) := by rw [← hv1']; exact hrow 8 (by omega)
    exact h1
  have HR9 : Hid (w.cell? ⟨g, i * 13 + 9, none⟩ = some (.slice ka kn kc)) := by
    have h1 : w.cell? ⟨g, i * 13 + 9, none⟩ = some (.slice ka kn kc) := by rw [← hv2']; exact hrow 9 (by omega)
    exact h1
  have HR10 : Hid (w.cell? ⟨g, i * 13 + 10, none⟩ = some (.slice qa qn qc)) := by
    have h1 : w.cell? ⟨g, i * 13 + 10, none⟩ = some (.slice qa qn qc) := by rw [← hv3']; exact hrow 10 (by omega)
    exact h1
  have HR11 : Hid (w.cell? ⟨g, i * 13 + 11, none⟩ = some (.slice aa rn ac)) := by
    have h1 : w.cell? ⟨g, i * 13 + 11, none⟩ = some (.slice aa rn ac) := by rw [← hv4']; exact hrow 11 (by omega)
    exact h1
  have HR12 : Hid (w.cell? ⟨g, i * 13 + 12, none⟩ = some (.slice ba rn bc)) := by
    have h1 : w.cell? ⟨g, i * 13 + 12, none⟩ = some (.slice ba rn bc) := by rw [← hv5']; exact hrow 12 (by omega)
    exact h1
  have HSUB : Hid (∀ t, t < sn → ∃ gs, sa = some ⟨gs, 0, none⟩ ∧ gs < w.heap.size ∧ ∀ q, q < 9 → w.cell? ⟨gs, t * 9 + q, none⟩ = (asubC t (subAt m.subs t))[q]?) := fun t ht => by
    have o := hown 1 (by omega)
    rw [hv1'] at o
    have o' : w.ownsRow 0 71 9 (.slice sa sn sc) sn (asubs m.subs) := by rw [hsn] at o ⊢; exact o
    obtain ⟨gs, cs, hgs, _, hls⟩ := o'.form (by omega)
    cases hgs
    refine ⟨gs, rfl, hls, fun q hq => ?_⟩
    rw [o'.cellAt (t * 9 + q) (by omega)]
    exact rows_get (s := 9) (f := fun i => asubC i (subAt m.subs i)) (p := q) m.subs.length (fun _ _ => rfl) (by omega) hq
  have HKEY : Hid (∀ t, t < kn → ∃ gs, ka = some ⟨gs, 0, none⟩ ∧ gs < w.heap.size ∧ w.cell? ⟨gs, t * 2, none⟩ = some (.string (keyAt m.solved t).1) ∧ w.cell? ⟨gs, t * 2 + 1, none⟩ = some (.int .i64 (keyAt m.solved t).2)) := fun t ht => by
    have o := hown 2 (by omega)
    rw [hv2'] at o
    have o' : w.ownsRow 0 68 2 (.slice ka kn kc) kn (keysC m.solved) := by rw [hkn] at o ⊢; exact o
    obtain ⟨gs, cs, hgs, _, hls⟩ := o'.form (by omega)
    cases hgs
    refine ⟨gs, rfl, hls, ?_, ?_⟩
    · rw [o'.cellAt (t * 2) (by omega)]
      exact rows_get (s := 2) (f := fun i => keyC (keyAt m.solved i)) (p := 0) m.solved.length (fun _ _ => rfl) (by omega) (by omega)
    · rw [o'.cellAt (t * 2 + 1) (by omega)]
      exact rows_get (s := 2) (f := fun i => keyC (keyAt m.solved i)) (p := 1) m.solved.length (fun _ _ => rfl) (by omega) (by omega)
  have HDIS : Hid (∀ (t : Nat) (s : ByteArray), m.disq[t]? = some s → ∃ gs, da = some ⟨gs, 0, none⟩ ∧ gs < w.heap.size ∧ w.cell? ⟨gs, t, none⟩ = some (Value.string s)) := fun t s hs => by
    have ht := (List.getElem?_eq_some_iff.1 hs).1
    have o := hown 0 (by omega)
    rw [hv0'] at o
    have o' : w.ownsRow 0 9 1 (.slice da dn dc) dn (m.disq.map Value.string) := by rw [hdn] at o ⊢; exact o
    obtain ⟨gs, cs, hgs, _, hls⟩ := o'.form (by omega)
    cases hgs
    refine ⟨gs, rfl, hls, ?_⟩
    rw [o'.cellAt t (by omega), List.getElem?_map, hs]
    rfl
  have HQUE : Hid (∀ (t : Nat) (s : Nat), m.queue[t]? = some s → ∃ gs, qa = some ⟨gs, 0, none⟩ ∧ gs < w.heap.size ∧ w.cell? ⟨gs, t, none⟩ = some (idV s)) := fun t s hs => by
    have ht := (List.getElem?_eq_some_iff.1 hs).1
    have o := hown 3 (by omega)
    rw [hv3'] at o
    have o' : w.ownsRow 0 3 1 (.slice qa qn qc) qn (m.queue.map idV) := by rw [hqn] at o ⊢; exact o
    obtain ⟨gs, cs, hgs, _, hls⟩ := o'.form (by omega)
    cases hgs
    refine ⟨gs, rfl, hls, ?_⟩
    rw [o'.cellAt t (by omega), List.getElem?_map, hs]
    rfl
  have HRA : Hid (∀ (t : Nat) (s : Nat × Int), m.recs[t]? = some s → ∃ gs, aa = some ⟨gs, 0, none⟩ ∧ gs < w.heap.size ∧ w.cell? ⟨gs, t, none⟩ = some (idV s.1)) := fun t s hs => by
    have ht := (List.getElem?_eq_some_iff.1 hs).1
    have o := hown 4 (by omega)
    rw [hv4'] at o
    have o' : w.ownsRow 0 3 1 (.slice aa rn ac) rn (m.recs.map fun r => idV r.1) := by rw [hrn] at o ⊢; exact o
    obtain ⟨gs, cs, hgs, _, hls⟩ := o'.form (by omega)
    cases hgs
    refine ⟨gs, rfl, hls, ?_⟩
    rw [o'.cellAt t (by omega), List.getElem?_map, hs]
    rfl
  have HRB : Hid (∀ (t : Nat) (s : Nat × Int), m.recs[t]? = some s → ∃ gs, ba = some ⟨gs, 0, none⟩ ∧ gs < w.heap.size ∧ w.cell? ⟨gs, t, none⟩ = some (Value.int .i64 s.2)) := fun t s hs => by
    have ht := (List.getElem?_eq_some_iff.1 hs).1
    have o := hown 5 (by omega)
    rw [hv5'] at o
    have o' : w.ownsRow 0 3 1 (.slice ba rn bc) rn (m.recs.map fun r => Value.int .i64 r.2) := by rw [hrn] at o ⊢; exact o
    obtain ⟨gs, cs, hgs, _, hls⟩ := o'.form (by omega)
    cases hgs
    refine ⟨gs, rfl, hls, ?_⟩
    rw [o'.cellAt t (by omega), List.getElem?_map, hs]
    rfl
  have HLED : Hid (∀ w', Below w.heap.size w w' → IsLed w' (G i) L m) := fun w' hb => hled.below hb (Nat.le_refl _)
  have HOK : Hid (m.Ok N) := hmok
  have HDN : Hid (dn = m.disq.length) := hdn
  have HSN : Hid (sn = m.subs.length) := hsn
  have HKN : Hid (kn = m.solved.length) := hkn
  have HQN : Hid (qn = m.queue.length) := hqn
  have HRN : Hid (rn = m.recs.length) := hrn
  clear hH hM hok hi hm' hL hmok hled hown hrow hv0 hv0' hv1 hv1' hv2 hv2' hv3 hv3' hv4 hv4' hv5 hv5' hdn hsn hkn hqn hrn
  have r0 := HR0.out
  go_enter Tryf.func10, Tryf.ntmps10
  go_wp2_with fail
  refine hled17.mono ?_
  rintro e0 wa ⟨rfl, hba⟩
  clear hled17 r0
  go_upto_region 4 with fail
  go_cut [59] from 35 to 58 (fun v wx => v = .bool false ∧ Below w.heap.size w wx)
  case first =>
    have HMK : Hid (∀ w', Below w.heap.size w w' → w'.cell? ⟨g, i * 13, none⟩ = some (.string m.name) ∧ w'.cell? ⟨g, i * 13 + 2, none⟩ = some (.int .i64 m.st) ∧ w'.cell? ⟨g, i * 13 + 3, none⟩ = some (.int .i64 m.en)) := fun w' hb => ⟨(hb.cell (p := ⟨g, i * 13, none⟩) hg).trans HR0.out, (hb.cell (p := ⟨g, i * 13 + 2, none⟩) hg).trans HR2.out, (hb.cell (p := ⟨g, i * 13 + 3, none⟩) hg).trans HR3.out⟩
    refine wp_region_noPanic ?_
    refine wp_region_held_drew (S := fun w' => w'.cell? ⟨g, i * 13, none⟩ = some (.string m.name) ∧ w'.cell? ⟨g, i * 13 + 2, none⟩ = some (.int .i64 m.st) ∧ w'.cell? ⟨g, i * 13 + 3, none⟩ = some (.int .i64 m.en)) (by kernel_rfl) (HMK.out _ hba.drew) (fun hHeld => ?_)
    refine wpAnyH_take (i := 0) (oi := ⟨some 35, Op.move (Operand.tmp 5), 59, _, _, none⟩) (v := ?v0a) rfl (by kernel_rfl) (by kernel_rfl) (by kernel_rfl) (fun _ _ _ h => h) (Or.inl ⟨by rfl, ?hy0a⟩) (by assumption) ?r0a
    case hy0a =>
      intro w hSw
      try dsimp only at hSw
      go_simp
      try with_reducible rfl
    simp only [Act.put, List.setIfInBounds_toArray, List.set_cons_zero, List.set_cons_succ]
    refine wpAnyH_take (i := 2) (oi := ⟨some 37, Op.move (Operand.tmp 1), 37, _, _, none⟩) (v := ?v2a) rfl (by kernel_rfl) (by kernel_rfl) (by kernel_rfl) (fun _ _ _ h => h) (Or.inl ⟨by rfl, ?hy2a⟩) (by assumption) ?r2a
    case hy2a =>
      intro w hSw
      try dsimp only at hSw
      go_simp
      try with_reducible rfl
    simp only [Act.put, List.setIfInBounds_toArray, List.set_cons_zero, List.set_cons_succ]
    refine wpAnyH_take (i := 3) (oi := ⟨some 38, Op.nilCheck (Operand.tmp 37), 0, _, _, none⟩) (v := ?v3a) rfl (by kernel_rfl) (by kernel_rfl) (by kernel_rfl) (fun _ _ _ h => h) (Or.inl ⟨by rfl, ?hy3a⟩) (by assumption) ?r3a
    case hy3a =>
      intro w hSw
      try dsimp only at hSw
      go_simp
      try with_reducible rfl
    simp only [Act.put, List.setIfInBounds_toArray, List.set_cons_zero, List.set_cons_succ]
    refine wpAnyH_take (i := 4) (oi := ⟨some 39, Op.fieldAddr 43 (Operand.tmp 38) 0, 0, _, _, none⟩) (v := ?v4a) rfl (by kernel_rfl) (by kernel_rfl) (by kernel_rfl) (fun _ _ _ h => h) (Or.inl ⟨by rfl, ?hy4a⟩) (by assumption) ?r4a
    case hy4a =>
      intro w hSw
      try dsimp only at hSw
      go_simp
      try with_reducible rfl
    simp only [Act.put, List.setIfInBounds_toArray, List.set_cons_zero, List.set_cons_succ]
    refine wpAnyH_take (i := 5) (oi := ⟨some 40, Op.load 9 (Operand.tmp 39), 9, _, _, none⟩) (v := ?v5a) rfl (by kernel_rfl) (by kernel_rfl) (by kernel_rfl) (fun _ _ _ h => h) (Or.inl ⟨by rfl, ?hy5a⟩) (by assumption) ?r5a
    case hy5a =>
      intro w hSw
      try dsimp only at hSw
      go_simp
      try with_reducible rfl
    simp only [Act.put, List.setIfInBounds_toArray, List.set_cons_zero, List.set_cons_succ]
    refine wpAnyH_ready (rs := [1]) (by kernel_rfl) (by simp) ?_
    refine AllReadyH.cons rfl (fun K hK => ?_) AllReadyH.nil
    go_simp
    refine (accName _ _ _ _ (HLED.out _ hba.drew)).mono ?_
    rintro e1 w1 ⟨rfl, hb1⟩
    have hb1' : Below w.heap.size w w1 := hba.drew.trans (hb1.mono (by exact hba.drew.size))
    show K _ _
    refine hK.out _ _ (HMK.out _ hb1') (fun hHeldB => ?_)
    clear hK K hHeld
    try simp only [Act.put, List.setIfInBounds_toArray, List.set_cons_zero, List.set_cons_succ]
    refine wpAnyH_take (i := 6) (oi := ⟨some 41, Op.binOp BinOp.neq 9 (Operand.tmp 36) (Operand.tmp 40) 9, 4, _, _, none⟩) (v := ?v6a) rfl (by kernel_rfl) (by kernel_rfl) (by kernel_rfl) (fun _ _ _ h => h) (Or.inl ⟨by rfl, ?hy6a⟩) (by assumption) ?r6a
    case hy6a =>
      intro w hSw
      try dsimp only at hSw
      go_simp
      try with_reducible rfl
    simp only [Act.put, List.setIfInBounds_toArray, List.set_cons_zero, List.set_cons_succ]
    refine wpAnyH_take (i := 7) (oi := ⟨some 42, Op.move (Operand.tmp 41), 4, _, _, none⟩) (v := ?v7a) rfl (by kernel_rfl) (by kernel_rfl) (by kernel_rfl) (fun _ _ _ h => h) (Or.inl ⟨by rfl, ?hy7a⟩) (by assumption) ?r7a
    case hy7a =>
      intro w hSw
      try dsimp only at hSw
      go_simp
      try with_reducible rfl
    simp only [Act.put, List.setIfInBounds_toArray, List.set_cons_zero, List.set_cons_succ]
    refine wpAnyH_take (i := 8) (oi := ⟨some 43, Op.move (Operand.tmp 5), 59, _, _, some (7, false)⟩) (v := ?v8a) rfl (by kernel_rfl) (by kernel_rfl) (by kernel_rfl) (fun _ _ _ h => h) (Or.inl ⟨by rfl, ?hy8a⟩) (by assumption) ?r8a
    case hy8a =>
      intro w hSw
      try dsimp only at hSw
      go_simp
      try with_reducible rfl
    simp only [Act.put, List.setIfInBounds_toArray, List.set_cons_zero, List.set_cons_succ]
    refine wpAnyH_take (i := 10) (oi := ⟨some 45, Op.move (Operand.tmp 1), 37, _, _, some (7, false)⟩) (v := ?v10a) rfl (by kernel_rfl) (by kernel_rfl) (by kernel_rfl) (fun _ _ _ h => h) (Or.inl ⟨by rfl, ?hy10a⟩) (by assumption) ?r10a
    case hy10a =>
      intro w hSw
      try dsimp only at hSw
      go_simp
      try with_reducible rfl
    simp only [Act.put, List.setIfInBounds_toArray, List.set_cons_zero, List.set_cons_succ]
    refine wpAnyH_take (i := 11) (oi := ⟨some 46, Op.nilCheck (Operand.tmp 45), 0, _, _, some (7, false)⟩) (v := ?v11a) rfl (by kernel_rfl) (by kernel_rfl) (by kernel_rfl) (fun _ _ _ h => h) (Or.inl ⟨by rfl, ?hy11a⟩) (by assumption) ?r11a
    case hy11a =>
      intro w hSw
      try dsimp only at hSw
      go_simp
      try with_reducible rfl
    simp only [Act.put, List.setIfInBounds_toArray, List.set_cons_zero, List.set_cons_succ]
    refine wpAnyH_take (i := 12) (oi := ⟨some 47, Op.fieldAddr 43 (Operand.tmp 46) 2, 0, _, _, some (7, false)⟩) (v := ?v12a) rfl (by kernel_rfl) (by kernel_rfl) (by kernel_rfl) (fun _ _ _ h => h) (Or.inl ⟨by rfl, ?hy12a⟩) (by assumption) ?r12a
    case hy12a =>
      intro w hSw
      try dsimp only at hSw
      go_simp
      try with_reducible rfl
    simp only [Act.put, List.setIfInBounds_toArray, List.set_cons_zero, List.set_cons_succ]
    refine wpAnyH_take (i := 13) (oi := ⟨some 48, Op.load 2 (Operand.tmp 47), 2, _, _, some (7, false)⟩) (v := ?v13a) rfl (by kernel_rfl) (by kernel_rfl) (by kernel_rfl) (fun _ _ _ h => h) (Or.inl ⟨by rfl, ?hy13a⟩) (by assumption) ?r13a
    case hy13a =>
      intro w hSw
      try dsimp only at hSw
      go_simp
      try with_reducible rfl
    simp only [Act.put, List.setIfInBounds_toArray, List.set_cons_zero, List.set_cons_succ]
    refine wpAnyH_ready (rs := [9]) (by kernel_rfl) (by simp) ?_
    refine AllReadyH.cons rfl (fun K hK => ?_) AllReadyH.nil
    go_simp
    refine (accStarted _ _ _ _ (HLED.out _ hb1') HOK.out.st).mono ?_
    rintro e9 w9 ⟨rfl, hb9⟩
    have hb9' : Below w.heap.size w w9 := hb1'.trans (hb9.mono (by exact hb1'.size))
    show K _ _
    refine hK.out _ _ (HMK.out _ hb9') (fun hHeldC => ?_)
    clear hK K hHeldB
    try simp only [Act.put, List.setIfInBounds_toArray, List.set_cons_zero, List.set_cons_succ]
    refine wpAnyH_take (i := 14) (oi := ⟨some 49, Op.binOp BinOp.neq 2 (Operand.tmp 44) (Operand.tmp 48) 2, 4, _, _, some (7, false)⟩) (v := ?v14a) rfl (by kernel_rfl) (by kernel_rfl) (by kernel_rfl) (fun _ _ _ h => h) (Or.inl ⟨by rfl, ?hy14a⟩) (by assumption) ?r14a
    case hy14a =>
      intro w hSw
      try dsimp only at hSw
      go_simp
      try with_reducible rfl
    simp only [Act.put, List.setIfInBounds_toArray, List.set_cons_zero, List.set_cons_succ]
    refine wpAnyH_take (i := 15) (oi := ⟨some 50, Op.pick (Operand.tmp 42) (Operand.const (Value.bool true)) (Operand.tmp 49), 4, _, _, none⟩) (v := ?v15a) rfl (by kernel_rfl) (by kernel_rfl) (by kernel_rfl) (fun _ _ _ h => h) (Or.inl ⟨by rfl, ?hy15a⟩) (by assumption) ?r15a
    case hy15a =>
      intro w hSw
      try dsimp only at hSw
      go_simp
      try with_reducible rfl
    simp only [Act.put, List.setIfInBounds_toArray, List.set_cons_zero, List.set_cons_succ]
    refine wpAnyH_take (i := 16) (oi := ⟨some 51, Op.move (Operand.tmp 50), 4, _, _, none⟩) (v := ?v16a) rfl (by kernel_rfl) (by kernel_rfl) (by kernel_rfl) (fun _ _ _ h => h) (Or.inl ⟨by rfl, ?hy16a⟩) (by assumption) ?r16a
    case hy16a =>
      intro w hSw
      try dsimp only at hSw
      go_simp
      try with_reducible rfl
    simp only [Act.put, List.setIfInBounds_toArray, List.set_cons_zero, List.set_cons_succ]
    refine wpAnyH_take (i := 17) (oi := ⟨some 52, Op.move (Operand.tmp 5), 59, _, _, some (16, false)⟩) (v := ?v17a) rfl (by kernel_rfl) (by kernel_rfl) (by kernel_rfl) (fun _ _ _ h => h) (Or.inl ⟨by rfl, ?hy17a⟩) (by assumption) ?r17a
    case hy17a =>
      intro w hSw
      try dsimp only at hSw
      go_simp
      try with_reducible rfl
    simp only [Act.put, List.setIfInBounds_toArray, List.set_cons_zero, List.set_cons_succ]
    refine wpAnyH_take (i := 19) (oi := ⟨some 54, Op.move (Operand.tmp 1), 37, _, _, some (16, false)⟩) (v := ?v19a) rfl (by kernel_rfl) (by kernel_rfl) (by kernel_rfl) (fun _ _ _ h => h) (Or.inl ⟨by rfl, ?hy19a⟩) (by assumption) ?r19a
    case hy19a =>
      intro w hSw
      try dsimp only at hSw
      go_simp
      try with_reducible rfl
    simp only [Act.put, List.setIfInBounds_toArray, List.set_cons_zero, List.set_cons_succ]
    refine wpAnyH_take (i := 20) (oi := ⟨some 55, Op.nilCheck (Operand.tmp 54), 0, _, _, some (16, false)⟩) (v := ?v20a) rfl (by kernel_rfl) (by kernel_rfl) (by kernel_rfl) (fun _ _ _ h => h) (Or.inl ⟨by rfl, ?hy20a⟩) (by assumption) ?r20a
    case hy20a =>
      intro w hSw
      try dsimp only at hSw
      go_simp
      try with_reducible rfl
    simp only [Act.put, List.setIfInBounds_toArray, List.set_cons_zero, List.set_cons_succ]
    refine wpAnyH_take (i := 21) (oi := ⟨some 56, Op.fieldAddr 43 (Operand.tmp 55) 3, 0, _, _, some (16, false)⟩) (v := ?v21a) rfl (by kernel_rfl) (by kernel_rfl) (by kernel_rfl) (fun _ _ _ h => h) (Or.inl ⟨by rfl, ?hy21a⟩) (by assumption) ?r21a
    case hy21a =>
      intro w hSw
      try dsimp only at hSw
      go_simp
      try with_reducible rfl
    simp only [Act.put, List.setIfInBounds_toArray, List.set_cons_zero, List.set_cons_succ]
    refine wpAnyH_take (i := 22) (oi := ⟨some 57, Op.load 2 (Operand.tmp 56), 2, _, _, some (16, false)⟩) (v := ?v22a) rfl (by kernel_rfl) (by kernel_rfl) (by kernel_rfl) (fun _ _ _ h => h) (Or.inl ⟨by rfl, ?hy22a⟩) (by assumption) ?r22a
    case hy22a =>
      intro w hSw
      try dsimp only at hSw
      go_simp
      try with_reducible rfl
    simp only [Act.put, List.setIfInBounds_toArray, List.set_cons_zero, List.set_cons_succ]
    refine wpAnyH_ready (rs := [18]) (by kernel_rfl) (by simp) ?_
    refine AllReadyH.cons rfl (fun K hK => ?_) AllReadyH.nil
    go_simp
    refine (accEnded _ _ _ _ (HLED.out _ hb9') HOK.out.en).mono ?_
    rintro e18 w18 ⟨rfl, hb18⟩
    have hb18' : Below w.heap.size w w18 := hb9'.trans (hb18.mono (by exact hb9'.size))
    show K _ _
    refine hK.out _ _ (HMK.out _ hb18') (fun hHeldD => ?_)
    clear hK K hHeldC
    try simp only [Act.put, List.setIfInBounds_toArray, List.set_cons_zero, List.set_cons_succ]
    refine wpAnyH_take (i := 23) (oi := ⟨some 58, Op.binOp BinOp.neq 2 (Operand.tmp 53) (Operand.tmp 57) 2, 4, _, _, some (16, false)⟩) (v := ?v23a) rfl (by kernel_rfl) (by kernel_rfl) (by kernel_rfl) (fun _ _ _ h => h) (Or.inl ⟨by rfl, ?hy23a⟩) (by assumption) ?r23a
    case hy23a =>
      intro w hSw
      try dsimp only at hSw
      go_simp
      try with_reducible rfl
    simp only [Act.put, List.setIfInBounds_toArray, List.set_cons_zero, List.set_cons_succ]
    refine wpAnyH_take (i := 24) (oi := ⟨some 59, Op.pick (Operand.tmp 51) (Operand.const (Value.bool true)) (Operand.tmp 58), 4, _, _, none⟩) (v := ?v24a) rfl (by kernel_rfl) (by kernel_rfl) (by kernel_rfl) (fun _ _ _ h => h) (Or.inl ⟨by rfl, ?hy24a⟩) (by assumption) ?r24a
    case hy24a =>
      intro w hSw
      try dsimp only at hSw
      go_simp
      try with_reducible rfl
    simp only [Act.put, List.setIfInBounds_toArray, List.set_cons_zero, List.set_cons_succ]
    refine wpAnyH_done (by kernel_rfl) ?_ _
    refine NoPanic.normal ?_
    go_wp2_with fail
    all_goals go_meet
    all_goals exact ⟨rfl, hb18'⟩
  case rest =>
  rename World => wb
  obtain ⟨rfl, hbb⟩ := hcut
  have HBB : Hid (Below w.heap.size w wb) := hbb
  have h21 := accFreeze wb (G i) L m (HLED.out _ hbb)
  clear hba hbb
  go_wp2_with fail
  refine h21.mono ?_
  rintro e1 wc ⟨rfl, hbc⟩
  have hbc' : Below w.heap.size w wc := HBB.out.trans (hbc.mono HBB.out.size)
  have h22 := accFrozen wc (G i) L m (HLED.out _ hbc')
  have HBC : Hid (Below w.heap.size w wc) := hbc'
  clear h21 hbc hbc' HBB
  go_wp2_with fail
  refine h22.mono ?_
  rintro e2 wd ⟨rfl, hbd⟩
  have hbd' : Below w.heap.size w wd := HBC.out.trans (hbd.mono HBC.out.size)
  have HBD : Hid (Below w.heap.size w wd) := hbd'
  have z4 : wd.cell? ⟨g, i * 13 + 4, none⟩ = some (.int .i64 m.fz) := (hbd'.cell (p := ⟨g, i * 13 + 4, none⟩) hg).trans HR4.out
  have z5 : wd.cell? ⟨g, i * 13 + 5, none⟩ = some (.bool m.fzs) := (hbd'.cell (p := ⟨g, i * 13 + 5, none⟩) hg).trans HR5.out
  have z6 : wd.cell? ⟨g, i * 13 + 6, none⟩ = some (.bool m.fro) := (hbd'.cell (p := ⟨g, i * 13 + 6, none⟩) hg).trans HR6.out
  have z7 : wd.cell? ⟨g, i * 13 + 7, none⟩ = some (.int .i64 m.shown) := (hbd'.cell (p := ⟨g, i * 13 + 7, none⟩) hg).trans HR7.out
  clear h22 hbd HBC
  go_upto_region 10 with fail
  clear z4 z5 z6 z7
  go_cut [147] from 100 to 146 (fun v wx => v = .bool false ∧ Below w.heap.size w wx)
  case first =>
    have HMK : Hid (∀ w', Below w.heap.size w w' → w'.cell? ⟨g, i * 13 + 8, none⟩ = some (.slice sa sn sc) ∧ w'.cell? ⟨g, i * 13 + 10, none⟩ = some (.slice qa qn qc) ∧ w'.cell? ⟨g, i * 13 + 11, none⟩ = some (.slice aa rn ac) ∧ w'.cell? ⟨g, i * 13 + 1, none⟩ = some (.slice da dn dc) ∧ w'.cell? ⟨g, i * 13 + 9, none⟩ = some (.slice ka kn kc)) := fun w' hb => ⟨(hb.cell (p := ⟨g, i * 13 + 8, none⟩) hg).trans HR8.out, (hb.cell (p := ⟨g, i * 13 + 10, none⟩) hg).trans HR10.out, (hb.cell (p := ⟨g, i * 13 + 11, none⟩) hg).trans HR11.out, (hb.cell (p := ⟨g, i * 13 + 1, none⟩) hg).trans HR1.out, (hb.cell (p := ⟨g, i * 13 + 9, none⟩) hg).trans HR9.out⟩
    refine wp_region_noPanic ?_
    refine wp_region_held_drew (S := fun w' => w'.cell? ⟨g, i * 13 + 8, none⟩ = some (.slice sa sn sc) ∧ w'.cell? ⟨g, i * 13 + 10, none⟩ = some (.slice qa qn qc) ∧ w'.cell? ⟨g, i * 13 + 11, none⟩ = some (.slice aa rn ac) ∧ w'.cell? ⟨g, i * 13 + 1, none⟩ = some (.slice da dn dc) ∧ w'.cell? ⟨g, i * 13 + 9, none⟩ = some (.slice ka kn kc)) (by kernel_rfl) (HMK.out _ hbd'.drew) (fun hHeld => ?_)
    refine wpAnyH_take (i := 0) (oi := ⟨some 100, Op.move (Operand.tmp 5), 59, _, _, none⟩) (v := ?v0b) rfl (by kernel_rfl) (by kernel_rfl) (by kernel_rfl) (fun _ _ _ h => h) (Or.inl ⟨by rfl, ?hy0b⟩) (by assumption) ?r0b
    case hy0b =>
      intro w hSw
      try dsimp only at hSw
      go_simp
      try with_reducible rfl
    simp only [Act.put, List.setIfInBounds_toArray, List.set_cons_zero, List.set_cons_succ]
    refine wpAnyH_take (i := 2) (oi := ⟨some 102, Op.move (Operand.tmp 1), 37, _, _, none⟩) (v := ?v2b) rfl (by kernel_rfl) (by kernel_rfl) (by kernel_rfl) (fun _ _ _ h => h) (Or.inl ⟨by rfl, ?hy2b⟩) (by assumption) ?r2b
    case hy2b =>
      intro w hSw
      try dsimp only at hSw
      go_simp
      try with_reducible rfl
    simp only [Act.put, List.setIfInBounds_toArray, List.set_cons_zero, List.set_cons_succ]
    refine wpAnyH_take (i := 3) (oi := ⟨some 103, Op.nilCheck (Operand.tmp 102), 0, _, _, none⟩) (v := ?v3b) rfl (by kernel_rfl) (by kernel_rfl) (by kernel_rfl) (fun _ _ _ h => h) (Or.inl ⟨by rfl, ?hy3b⟩) (by assumption) ?r3b
    case hy3b =>
      intro w hSw
      try dsimp only at hSw
      go_simp
      try with_reducible rfl
    simp only [Act.put, List.setIfInBounds_toArray, List.set_cons_zero, List.set_cons_succ]
    refine wpAnyH_take (i := 4) (oi := ⟨some 104, Op.fieldAddr 43 (Operand.tmp 103) 8, 0, _, _, none⟩) (v := ?v4b) rfl (by kernel_rfl) (by kernel_rfl) (by kernel_rfl) (fun _ _ _ h => h) (Or.inl ⟨by rfl, ?hy4b⟩) (by assumption) ?r4b
    case hy4b =>
      intro w hSw
      try dsimp only at hSw
      go_simp
      try with_reducible rfl
    simp only [Act.put, List.setIfInBounds_toArray, List.set_cons_zero, List.set_cons_succ]
    refine wpAnyH_take (i := 5) (oi := ⟨some 105, Op.load 39 (Operand.tmp 104), 39, _, _, none⟩) (v := ?v5b) rfl (by kernel_rfl) (by kernel_rfl) (by kernel_rfl) (fun _ _ _ h => h) (Or.inl ⟨by rfl, ?hy5b⟩) (by assumption) ?r5b
    case hy5b =>
      intro w hSw
      try dsimp only at hSw
      go_simp
      try with_reducible rfl
    simp only [Act.put, List.setIfInBounds_toArray, List.set_cons_zero, List.set_cons_succ]
    refine wpAnyH_take (i := 6) (oi := ⟨some 106, Op.call { callee := Callee.builtin Builtin.len, args := #[Operand.tmp 105], argTypes := #[39] }, 3, _, _, none⟩) (v := ?v6b) rfl (by kernel_rfl) (by kernel_rfl) (by kernel_rfl) (fun _ _ _ h => h) (Or.inl ⟨by rfl, ?hy6b⟩) (by assumption) ?r6b
    case hy6b =>
      intro w hSw
      try dsimp only at hSw
      go_simp
      try with_reducible rfl
    simp only [Act.put, List.setIfInBounds_toArray, List.set_cons_zero, List.set_cons_succ]
    refine wpAnyH_ready (rs := [1]) (by kernel_rfl) (by simp) ?_
    refine AllReadyH.cons rfl (fun K hK => ?_) AllReadyH.nil
    go_simp
    refine (accSubs _ _ _ _ (HLED.out _ hbd'.drew)).mono ?_
    rw [← HSN.out]
    rintro e1 w1 ⟨rfl, hb1⟩
    have hb1' : Below w.heap.size w w1 := hbd'.drew.trans (hb1.mono (by exact hbd'.drew.size))
    show K _ _
    refine hK.out _ _ (HMK.out _ hb1') (fun hHeldB => ?_)
    clear hK K hHeld
    try simp only [Act.put, List.setIfInBounds_toArray, List.set_cons_zero, List.set_cons_succ]
    refine wpAnyH_take (i := 7) (oi := ⟨some 107, Op.binOp BinOp.neq 3 (Operand.tmp 101) (Operand.tmp 106) 3, 4, _, _, none⟩) (v := ?v7b) rfl (by kernel_rfl) (by kernel_rfl) (by kernel_rfl) (fun _ _ _ h => h) (Or.inl ⟨by rfl, ?hy7b⟩) (by assumption) ?r7b
    case hy7b =>
      intro w hSw
      try dsimp only at hSw
      go_simp
      try with_reducible rfl
    simp only [Act.put, List.setIfInBounds_toArray, List.set_cons_zero, List.set_cons_succ]
    refine wpAnyH_take (i := 8) (oi := ⟨some 108, Op.move (Operand.tmp 107), 4, _, _, none⟩) (v := ?v8b) rfl (by kernel_rfl) (by kernel_rfl) (by kernel_rfl) (fun _ _ _ h => h) (Or.inl ⟨by rfl, ?hy8b⟩) (by assumption) ?r8b
    case hy8b =>
      intro w hSw
      try dsimp only at hSw
      go_simp
      try with_reducible rfl
    simp only [Act.put, List.setIfInBounds_toArray, List.set_cons_zero, List.set_cons_succ]
    refine wpAnyH_take (i := 9) (oi := ⟨some 109, Op.move (Operand.tmp 5), 59, _, _, some (8, false)⟩) (v := ?v9b) rfl (by kernel_rfl) (by kernel_rfl) (by kernel_rfl) (fun _ _ _ h => h) (Or.inl ⟨by rfl, ?hy9b⟩) (by assumption) ?r9b
    case hy9b =>
      intro w hSw
      try dsimp only at hSw
      go_simp
      try with_reducible rfl
    simp only [Act.put, List.setIfInBounds_toArray, List.set_cons_zero, List.set_cons_succ]
    refine wpAnyH_take (i := 11) (oi := ⟨some 111, Op.move (Operand.tmp 1), 37, _, _, some (8, false)⟩) (v := ?v11b) rfl (by kernel_rfl) (by kernel_rfl) (by kernel_rfl) (fun _ _ _ h => h) (Or.inl ⟨by rfl, ?hy11b⟩) (by assumption) ?r11b
    case hy11b =>
      intro w hSw
      try dsimp only at hSw
      go_simp
      try with_reducible rfl
    simp only [Act.put, List.setIfInBounds_toArray, List.set_cons_zero, List.set_cons_succ]
    refine wpAnyH_take (i := 12) (oi := ⟨some 112, Op.nilCheck (Operand.tmp 111), 0, _, _, some (8, false)⟩) (v := ?v12b) rfl (by kernel_rfl) (by kernel_rfl) (by kernel_rfl) (fun _ _ _ h => h) (Or.inl ⟨by rfl, ?hy12b⟩) (by assumption) ?r12b
    case hy12b =>
      intro w hSw
      try dsimp only at hSw
      go_simp
      try with_reducible rfl
    simp only [Act.put, List.setIfInBounds_toArray, List.set_cons_zero, List.set_cons_succ]
    refine wpAnyH_take (i := 13) (oi := ⟨some 113, Op.fieldAddr 43 (Operand.tmp 112) 10, 0, _, _, some (8, false)⟩) (v := ?v13b) rfl (by kernel_rfl) (by kernel_rfl) (by kernel_rfl) (fun _ _ _ h => h) (Or.inl ⟨by rfl, ?hy13b⟩) (by assumption) ?r13b
    case hy13b =>
      intro w hSw
      try dsimp only at hSw
      go_simp
      try with_reducible rfl
    simp only [Act.put, List.setIfInBounds_toArray, List.set_cons_zero, List.set_cons_succ]
    refine wpAnyH_take (i := 14) (oi := ⟨some 114, Op.load 41 (Operand.tmp 113), 41, _, _, some (8, false)⟩) (v := ?v14b) rfl (by kernel_rfl) (by kernel_rfl) (by kernel_rfl) (fun _ _ _ h => h) (Or.inl ⟨by rfl, ?hy14b⟩) (by assumption) ?r14b
    case hy14b =>
      intro w hSw
      try dsimp only at hSw
      go_simp
      try with_reducible rfl
    simp only [Act.put, List.setIfInBounds_toArray, List.set_cons_zero, List.set_cons_succ]
    refine wpAnyH_take (i := 15) (oi := ⟨some 115, Op.call { callee := Callee.builtin Builtin.len, args := #[Operand.tmp 114], argTypes := #[41] }, 3, _, _, some (8, false)⟩) (v := ?v15b) rfl (by kernel_rfl) (by kernel_rfl) (by kernel_rfl) (fun _ _ _ h => h) (Or.inl ⟨by rfl, ?hy15b⟩) (by assumption) ?r15b
    case hy15b =>
      intro w hSw
      try dsimp only at hSw
      go_simp
      try with_reducible rfl
    simp only [Act.put, List.setIfInBounds_toArray, List.set_cons_zero, List.set_cons_succ]
    refine wpAnyH_ready (rs := [10]) (by kernel_rfl) (by simp) ?_
    refine AllReadyH.cons rfl (fun K hK => ?_) AllReadyH.nil
    go_simp
    refine (accQueue _ _ _ _ (HLED.out _ hb1')).mono ?_
    rw [← HQN.out]
    rintro e10 w10 ⟨rfl, hb10⟩
    have hb10' : Below w.heap.size w w10 := hb1'.trans (hb10.mono (by exact hb1'.size))
    show K _ _
    refine hK.out _ _ (HMK.out _ hb10') (fun hHeldC => ?_)
    clear hK K hHeldB
    try simp only [Act.put, List.setIfInBounds_toArray, List.set_cons_zero, List.set_cons_succ]
    refine wpAnyH_take (i := 16) (oi := ⟨some 116, Op.binOp BinOp.neq 3 (Operand.tmp 110) (Operand.tmp 115) 3, 4, _, _, some (8, false)⟩) (v := ?v16b) rfl (by kernel_rfl) (by kernel_rfl) (by kernel_rfl) (fun _ _ _ h => h) (Or.inl ⟨by rfl, ?hy16b⟩) (by assumption) ?r16b
    case hy16b =>
      intro w hSw
      try dsimp only at hSw
      go_simp
      try with_reducible rfl
    simp only [Act.put, List.setIfInBounds_toArray, List.set_cons_zero, List.set_cons_succ]
    refine wpAnyH_take (i := 17) (oi := ⟨some 117, Op.pick (Operand.tmp 108) (Operand.const (Value.bool true)) (Operand.tmp 116), 4, _, _, none⟩) (v := ?v17b) rfl (by kernel_rfl) (by kernel_rfl) (by kernel_rfl) (fun _ _ _ h => h) (Or.inl ⟨by rfl, ?hy17b⟩) (by assumption) ?r17b
    case hy17b =>
      intro w hSw
      try dsimp only at hSw
      go_simp
      try with_reducible rfl
    simp only [Act.put, List.setIfInBounds_toArray, List.set_cons_zero, List.set_cons_succ]
    refine wpAnyH_take (i := 18) (oi := ⟨some 118, Op.move (Operand.tmp 117), 4, _, _, none⟩) (v := ?v18b) rfl (by kernel_rfl) (by kernel_rfl) (by kernel_rfl) (fun _ _ _ h => h) (Or.inl ⟨by rfl, ?hy18b⟩) (by assumption) ?r18b
    case hy18b =>
      intro w hSw
      try dsimp only at hSw
      go_simp
      try with_reducible rfl
    simp only [Act.put, List.setIfInBounds_toArray, List.set_cons_zero, List.set_cons_succ]
    refine wpAnyH_take (i := 19) (oi := ⟨some 119, Op.move (Operand.tmp 5), 59, _, _, some (18, false)⟩) (v := ?v19b) rfl (by kernel_rfl) (by kernel_rfl) (by kernel_rfl) (fun _ _ _ h => h) (Or.inl ⟨by rfl, ?hy19b⟩) (by assumption) ?r19b
    case hy19b =>
      intro w hSw
      try dsimp only at hSw
      go_simp
      try with_reducible rfl
    simp only [Act.put, List.setIfInBounds_toArray, List.set_cons_zero, List.set_cons_succ]
    refine wpAnyH_take (i := 21) (oi := ⟨some 121, Op.move (Operand.tmp 1), 37, _, _, some (18, false)⟩) (v := ?v21b) rfl (by kernel_rfl) (by kernel_rfl) (by kernel_rfl) (fun _ _ _ h => h) (Or.inl ⟨by rfl, ?hy21b⟩) (by assumption) ?r21b
    case hy21b =>
      intro w hSw
      try dsimp only at hSw
      go_simp
      try with_reducible rfl
    simp only [Act.put, List.setIfInBounds_toArray, List.set_cons_zero, List.set_cons_succ]
    refine wpAnyH_take (i := 22) (oi := ⟨some 122, Op.nilCheck (Operand.tmp 121), 0, _, _, some (18, false)⟩) (v := ?v22b) rfl (by kernel_rfl) (by kernel_rfl) (by kernel_rfl) (fun _ _ _ h => h) (Or.inl ⟨by rfl, ?hy22b⟩) (by assumption) ?r22b
    case hy22b =>
      intro w hSw
      try dsimp only at hSw
      go_simp
      try with_reducible rfl
    simp only [Act.put, List.setIfInBounds_toArray, List.set_cons_zero, List.set_cons_succ]
    refine wpAnyH_take (i := 23) (oi := ⟨some 123, Op.fieldAddr 43 (Operand.tmp 122) 11, 0, _, _, some (18, false)⟩) (v := ?v23b) rfl (by kernel_rfl) (by kernel_rfl) (by kernel_rfl) (fun _ _ _ h => h) (Or.inl ⟨by rfl, ?hy23b⟩) (by assumption) ?r23b
    case hy23b =>
      intro w hSw
      try dsimp only at hSw
      go_simp
      try with_reducible rfl
    simp only [Act.put, List.setIfInBounds_toArray, List.set_cons_zero, List.set_cons_succ]
    refine wpAnyH_take (i := 24) (oi := ⟨some 124, Op.load 41 (Operand.tmp 123), 41, _, _, some (18, false)⟩) (v := ?v24b) rfl (by kernel_rfl) (by kernel_rfl) (by kernel_rfl) (fun _ _ _ h => h) (Or.inl ⟨by rfl, ?hy24b⟩) (by assumption) ?r24b
    case hy24b =>
      intro w hSw
      try dsimp only at hSw
      go_simp
      try with_reducible rfl
    simp only [Act.put, List.setIfInBounds_toArray, List.set_cons_zero, List.set_cons_succ]
    refine wpAnyH_take (i := 25) (oi := ⟨some 125, Op.call { callee := Callee.builtin Builtin.len, args := #[Operand.tmp 124], argTypes := #[41] }, 3, _, _, some (18, false)⟩) (v := ?v25b) rfl (by kernel_rfl) (by kernel_rfl) (by kernel_rfl) (fun _ _ _ h => h) (Or.inl ⟨by rfl, ?hy25b⟩) (by assumption) ?r25b
    case hy25b =>
      intro w hSw
      try dsimp only at hSw
      go_simp
      try with_reducible rfl
    simp only [Act.put, List.setIfInBounds_toArray, List.set_cons_zero, List.set_cons_succ]
    refine wpAnyH_ready (rs := [20]) (by kernel_rfl) (by simp) ?_
    refine AllReadyH.cons rfl (fun K hK => ?_) AllReadyH.nil
    go_simp
    refine (accRecs _ _ _ _ (HLED.out _ hb10')).mono ?_
    rw [← HRN.out]
    rintro e20 w20 ⟨rfl, hb20⟩
    have hb20' : Below w.heap.size w w20 := hb10'.trans (hb20.mono (by exact hb10'.size))
    show K _ _
    refine hK.out _ _ (HMK.out _ hb20') (fun hHeldD => ?_)
    clear hK K hHeldC
    try simp only [Act.put, List.setIfInBounds_toArray, List.set_cons_zero, List.set_cons_succ]
    refine wpAnyH_take (i := 26) (oi := ⟨some 126, Op.binOp BinOp.neq 3 (Operand.tmp 120) (Operand.tmp 125) 3, 4, _, _, some (18, false)⟩) (v := ?v26b) rfl (by kernel_rfl) (by kernel_rfl) (by kernel_rfl) (fun _ _ _ h => h) (Or.inl ⟨by rfl, ?hy26b⟩) (by assumption) ?r26b
    case hy26b =>
      intro w hSw
      try dsimp only at hSw
      go_simp
      try with_reducible rfl
    simp only [Act.put, List.setIfInBounds_toArray, List.set_cons_zero, List.set_cons_succ]
    refine wpAnyH_take (i := 27) (oi := ⟨some 127, Op.pick (Operand.tmp 118) (Operand.const (Value.bool true)) (Operand.tmp 126), 4, _, _, none⟩) (v := ?v27b) rfl (by kernel_rfl) (by kernel_rfl) (by kernel_rfl) (fun _ _ _ h => h) (Or.inl ⟨by rfl, ?hy27b⟩) (by assumption) ?r27b
    case hy27b =>
      intro w hSw
      try dsimp only at hSw
      go_simp
      try with_reducible rfl
    simp only [Act.put, List.setIfInBounds_toArray, List.set_cons_zero, List.set_cons_succ]
    refine wpAnyH_take (i := 28) (oi := ⟨some 128, Op.move (Operand.tmp 127), 4, _, _, none⟩) (v := ?v28b) rfl (by kernel_rfl) (by kernel_rfl) (by kernel_rfl) (fun _ _ _ h => h) (Or.inl ⟨by rfl, ?hy28b⟩) (by assumption) ?r28b
    case hy28b =>
      intro w hSw
      try dsimp only at hSw
      go_simp
      try with_reducible rfl
    simp only [Act.put, List.setIfInBounds_toArray, List.set_cons_zero, List.set_cons_succ]
    refine wpAnyH_take (i := 29) (oi := ⟨some 129, Op.move (Operand.tmp 5), 59, _, _, some (28, false)⟩) (v := ?v29b) rfl (by kernel_rfl) (by kernel_rfl) (by kernel_rfl) (fun _ _ _ h => h) (Or.inl ⟨by rfl, ?hy29b⟩) (by assumption) ?r29b
    case hy29b =>
      intro w hSw
      try dsimp only at hSw
      go_simp
      try with_reducible rfl
    simp only [Act.put, List.setIfInBounds_toArray, List.set_cons_zero, List.set_cons_succ]
    refine wpAnyH_take (i := 31) (oi := ⟨some 131, Op.move (Operand.tmp 1), 37, _, _, some (28, false)⟩) (v := ?v31b) rfl (by kernel_rfl) (by kernel_rfl) (by kernel_rfl) (fun _ _ _ h => h) (Or.inl ⟨by rfl, ?hy31b⟩) (by assumption) ?r31b
    case hy31b =>
      intro w hSw
      try dsimp only at hSw
      go_simp
      try with_reducible rfl
    simp only [Act.put, List.setIfInBounds_toArray, List.set_cons_zero, List.set_cons_succ]
    refine wpAnyH_take (i := 32) (oi := ⟨some 132, Op.nilCheck (Operand.tmp 131), 0, _, _, some (28, false)⟩) (v := ?v32b) rfl (by kernel_rfl) (by kernel_rfl) (by kernel_rfl) (fun _ _ _ h => h) (Or.inl ⟨by rfl, ?hy32b⟩) (by assumption) ?r32b
    case hy32b =>
      intro w hSw
      try dsimp only at hSw
      go_simp
      try with_reducible rfl
    simp only [Act.put, List.setIfInBounds_toArray, List.set_cons_zero, List.set_cons_succ]
    refine wpAnyH_take (i := 33) (oi := ⟨some 133, Op.fieldAddr 43 (Operand.tmp 132) 1, 0, _, _, some (28, false)⟩) (v := ?v33b) rfl (by kernel_rfl) (by kernel_rfl) (by kernel_rfl) (fun _ _ _ h => h) (Or.inl ⟨by rfl, ?hy33b⟩) (by assumption) ?r33b
    case hy33b =>
      intro w hSw
      try dsimp only at hSw
      go_simp
      try with_reducible rfl
    simp only [Act.put, List.setIfInBounds_toArray, List.set_cons_zero, List.set_cons_succ]
    refine wpAnyH_take (i := 34) (oi := ⟨some 134, Op.load 38 (Operand.tmp 133), 38, _, _, some (28, false)⟩) (v := ?v34b) rfl (by kernel_rfl) (by kernel_rfl) (by kernel_rfl) (fun _ _ _ h => h) (Or.inl ⟨by rfl, ?hy34b⟩) (by assumption) ?r34b
    case hy34b =>
      intro w hSw
      try dsimp only at hSw
      go_simp
      try with_reducible rfl
    simp only [Act.put, List.setIfInBounds_toArray, List.set_cons_zero, List.set_cons_succ]
    refine wpAnyH_take (i := 35) (oi := ⟨some 135, Op.call { callee := Callee.builtin Builtin.len, args := #[Operand.tmp 134], argTypes := #[38] }, 3, _, _, some (28, false)⟩) (v := ?v35b) rfl (by kernel_rfl) (by kernel_rfl) (by kernel_rfl) (fun _ _ _ h => h) (Or.inl ⟨by rfl, ?hy35b⟩) (by assumption) ?r35b
    case hy35b =>
      intro w hSw
      try dsimp only at hSw
      go_simp
      try with_reducible rfl
    simp only [Act.put, List.setIfInBounds_toArray, List.set_cons_zero, List.set_cons_succ]
    refine wpAnyH_ready (rs := [30]) (by kernel_rfl) (by simp) ?_
    refine AllReadyH.cons rfl (fun K hK => ?_) AllReadyH.nil
    go_simp
    refine (accDisq _ _ _ _ (HLED.out _ hb20')).mono ?_
    rw [← HDN.out]
    rintro e30 w30 ⟨rfl, hb30⟩
    have hb30' : Below w.heap.size w w30 := hb20'.trans (hb30.mono (by exact hb20'.size))
    show K _ _
    refine hK.out _ _ (HMK.out _ hb30') (fun hHeldE => ?_)
    clear hK K hHeldD
    try simp only [Act.put, List.setIfInBounds_toArray, List.set_cons_zero, List.set_cons_succ]
    refine wpAnyH_take (i := 36) (oi := ⟨some 136, Op.binOp BinOp.neq 3 (Operand.tmp 130) (Operand.tmp 135) 3, 4, _, _, some (28, false)⟩) (v := ?v36b) rfl (by kernel_rfl) (by kernel_rfl) (by kernel_rfl) (fun _ _ _ h => h) (Or.inl ⟨by rfl, ?hy36b⟩) (by assumption) ?r36b
    case hy36b =>
      intro w hSw
      try dsimp only at hSw
      go_simp
      try with_reducible rfl
    simp only [Act.put, List.setIfInBounds_toArray, List.set_cons_zero, List.set_cons_succ]
    refine wpAnyH_take (i := 37) (oi := ⟨some 137, Op.pick (Operand.tmp 128) (Operand.const (Value.bool true)) (Operand.tmp 136), 4, _, _, none⟩) (v := ?v37b) rfl (by kernel_rfl) (by kernel_rfl) (by kernel_rfl) (fun _ _ _ h => h) (Or.inl ⟨by rfl, ?hy37b⟩) (by assumption) ?r37b
    case hy37b =>
      intro w hSw
      try dsimp only at hSw
      go_simp
      try with_reducible rfl
    simp only [Act.put, List.setIfInBounds_toArray, List.set_cons_zero, List.set_cons_succ]
    refine wpAnyH_take (i := 38) (oi := ⟨some 138, Op.move (Operand.tmp 137), 4, _, _, none⟩) (v := ?v38b) rfl (by kernel_rfl) (by kernel_rfl) (by kernel_rfl) (fun _ _ _ h => h) (Or.inl ⟨by rfl, ?hy38b⟩) (by assumption) ?r38b
    case hy38b =>
      intro w hSw
      try dsimp only at hSw
      go_simp
      try with_reducible rfl
    simp only [Act.put, List.setIfInBounds_toArray, List.set_cons_zero, List.set_cons_succ]
    refine wpAnyH_take (i := 39) (oi := ⟨some 139, Op.move (Operand.tmp 5), 59, _, _, some (38, false)⟩) (v := ?v39b) rfl (by kernel_rfl) (by kernel_rfl) (by kernel_rfl) (fun _ _ _ h => h) (Or.inl ⟨by rfl, ?hy39b⟩) (by assumption) ?r39b
    case hy39b =>
      intro w hSw
      try dsimp only at hSw
      go_simp
      try with_reducible rfl
    simp only [Act.put, List.setIfInBounds_toArray, List.set_cons_zero, List.set_cons_succ]
    refine wpAnyH_take (i := 41) (oi := ⟨some 141, Op.move (Operand.tmp 1), 37, _, _, some (38, false)⟩) (v := ?v41b) rfl (by kernel_rfl) (by kernel_rfl) (by kernel_rfl) (fun _ _ _ h => h) (Or.inl ⟨by rfl, ?hy41b⟩) (by assumption) ?r41b
    case hy41b =>
      intro w hSw
      try dsimp only at hSw
      go_simp
      try with_reducible rfl
    simp only [Act.put, List.setIfInBounds_toArray, List.set_cons_zero, List.set_cons_succ]
    refine wpAnyH_take (i := 42) (oi := ⟨some 142, Op.nilCheck (Operand.tmp 141), 0, _, _, some (38, false)⟩) (v := ?v42b) rfl (by kernel_rfl) (by kernel_rfl) (by kernel_rfl) (fun _ _ _ h => h) (Or.inl ⟨by rfl, ?hy42b⟩) (by assumption) ?r42b
    case hy42b =>
      intro w hSw
      try dsimp only at hSw
      go_simp
      try with_reducible rfl
    simp only [Act.put, List.setIfInBounds_toArray, List.set_cons_zero, List.set_cons_succ]
    refine wpAnyH_take (i := 43) (oi := ⟨some 143, Op.fieldAddr 43 (Operand.tmp 142) 9, 0, _, _, some (38, false)⟩) (v := ?v43b) rfl (by kernel_rfl) (by kernel_rfl) (by kernel_rfl) (fun _ _ _ h => h) (Or.inl ⟨by rfl, ?hy43b⟩) (by assumption) ?r43b
    case hy43b =>
      intro w hSw
      try dsimp only at hSw
      go_simp
      try with_reducible rfl
    simp only [Act.put, List.setIfInBounds_toArray, List.set_cons_zero, List.set_cons_succ]
    refine wpAnyH_take (i := 44) (oi := ⟨some 144, Op.load 40 (Operand.tmp 143), 40, _, _, some (38, false)⟩) (v := ?v44b) rfl (by kernel_rfl) (by kernel_rfl) (by kernel_rfl) (fun _ _ _ h => h) (Or.inl ⟨by rfl, ?hy44b⟩) (by assumption) ?r44b
    case hy44b =>
      intro w hSw
      try dsimp only at hSw
      go_simp
      try with_reducible rfl
    simp only [Act.put, List.setIfInBounds_toArray, List.set_cons_zero, List.set_cons_succ]
    refine wpAnyH_take (i := 45) (oi := ⟨some 145, Op.call { callee := Callee.builtin Builtin.len, args := #[Operand.tmp 144], argTypes := #[40] }, 3, _, _, some (38, false)⟩) (v := ?v45b) rfl (by kernel_rfl) (by kernel_rfl) (by kernel_rfl) (fun _ _ _ h => h) (Or.inl ⟨by rfl, ?hy45b⟩) (by assumption) ?r45b
    case hy45b =>
      intro w hSw
      try dsimp only at hSw
      go_simp
      try with_reducible rfl
    simp only [Act.put, List.setIfInBounds_toArray, List.set_cons_zero, List.set_cons_succ]
    refine wpAnyH_ready (rs := [40]) (by kernel_rfl) (by simp) ?_
    refine AllReadyH.cons rfl (fun K hK => ?_) AllReadyH.nil
    go_simp
    refine (accSolved _ _ _ _ (HLED.out _ hb30')).mono ?_
    rw [← HKN.out]
    rintro e40 w40 ⟨rfl, hb40⟩
    have hb40' : Below w.heap.size w w40 := hb30'.trans (hb40.mono (by exact hb30'.size))
    show K _ _
    refine hK.out _ _ (HMK.out _ hb40') (fun hHeldF => ?_)
    clear hK K hHeldE
    try simp only [Act.put, List.setIfInBounds_toArray, List.set_cons_zero, List.set_cons_succ]
    refine wpAnyH_take (i := 46) (oi := ⟨some 146, Op.binOp BinOp.neq 3 (Operand.tmp 140) (Operand.tmp 145) 3, 4, _, _, some (38, false)⟩) (v := ?v46b) rfl (by kernel_rfl) (by kernel_rfl) (by kernel_rfl) (fun _ _ _ h => h) (Or.inl ⟨by rfl, ?hy46b⟩) (by assumption) ?r46b
    case hy46b =>
      intro w hSw
      try dsimp only at hSw
      go_simp
      try with_reducible rfl
    simp only [Act.put, List.setIfInBounds_toArray, List.set_cons_zero, List.set_cons_succ]
    refine wpAnyH_take (i := 47) (oi := ⟨some 147, Op.pick (Operand.tmp 138) (Operand.const (Value.bool true)) (Operand.tmp 146), 4, _, _, none⟩) (v := ?v47b) rfl (by kernel_rfl) (by kernel_rfl) (by kernel_rfl) (fun _ _ _ h => h) (Or.inl ⟨by rfl, ?hy47b⟩) (by assumption) ?r47b
    case hy47b =>
      intro w hSw
      try dsimp only at hSw
      go_simp
      try with_reducible rfl
    simp only [Act.put, List.setIfInBounds_toArray, List.set_cons_zero, List.set_cons_succ]
    refine wpAnyH_done (by kernel_rfl) ?_ _
    refine NoPanic.normal ?_
    go_wp2_with fail
    all_goals go_meet
    all_goals exact ⟨rfl, hb40'⟩
  case rest =>
  rename World => we
  obtain ⟨rfl, hbe⟩ := hcut
  clear hbd' HBD
  go_wp2
  go_loopw [10] (fun vi wr => ∃ t : Nat, t ≤ sn ∧ vi = .int .i64 t ∧ Below w.heap.size w wr) (fun vi _ => sn - (intOf vi).toNat)
  case atStart => exact ⟨0, Nat.zero_le _, rfl, hbe⟩
  case round =>
  clear hbe
  obtain ⟨t, ht, rfl, hb⟩ := hrel
  have z8 : wr.cell? ⟨g, i * 13 + 8, none⟩ = some (.slice sa sn sc) := (hb.cell (p := ⟨g, i * 13 + 8, none⟩) hg).trans HR8.out
  have HB : Hid (Below w.heap.size w wr) := hb
  by_cases hlt : t < sn
  · obtain ⟨gs, rfl, hgs, hcs⟩ := HSUB.out t hlt
    obtain ⟨s, hs⟩ : ∃ s, s = subAt m.subs t := ⟨_, rfl⟩
    rw [← hs] at hcs
    have y0 : wr.cell? ⟨gs, t * 9, none⟩ = some (.int .i64 ((t : Int) + 1)) := (hb.cell (p := ⟨gs, t * 9, none⟩) hgs).trans (hcs 0 (by omega))
    have y1 : wr.cell? ⟨gs, t * 9 + 1, none⟩ = some (.string s.team) := (hb.cell (p := ⟨gs, t * 9 + 1, none⟩) hgs).trans (hcs 1 (by omega))
    have y2 : wr.cell? ⟨gs, t * 9 + 2, none⟩ = some (.string s.tid) := (hb.cell (p := ⟨gs, t * 9 + 2, none⟩) hgs).trans (hcs 2 (by omega))
    have y3 : wr.cell? ⟨gs, t * 9 + 3, none⟩ = some (.int .i64 s.task) := (hb.cell (p := ⟨gs, t * 9 + 3, none⟩) hgs).trans (hcs 3 (by omega))
    have y4 : wr.cell? ⟨gs, t * 9 + 4, none⟩ = some (.string s.comp) := (hb.cell (p := ⟨gs, t * 9 + 4, none⟩) hgs).trans (hcs 4 (by omega))
    have y5 : wr.cell? ⟨gs, t * 9 + 5, none⟩ = some (.int .i64 s.off) := (hb.cell (p := ⟨gs, t * 9 + 5, none⟩) hgs).trans (hcs 5 (by omega))
    have y6 : wr.cell? ⟨gs, t * 9 + 6, none⟩ = some (.int .i64 s.size) := (hb.cell (p := ⟨gs, t * 9 + 6, none⟩) hgs).trans (hcs 6 (by omega))
    have y7 : wr.cell? ⟨gs, t * 9 + 7, none⟩ = some (.int .i64 s.mins) := (hb.cell (p := ⟨gs, t * 9 + 7, none⟩) hgs).trans (hcs 7 (by omega))
    have y8 : wr.cell? ⟨gs, t * 9 + 8, none⟩ = some (.bool s.cnt) := (hb.cell (p := ⟨gs, t * 9 + 8, none⟩) hgs).trans (hcs 8 (by omega))
    have hacc : ∀ w', Below w.heap.size w w' → Calls Tryf.prog 28 #[.pointer (some ⟨L, 0, none⟩), .int .i64 t] w' (AccPost (subT t s) w') := fun w' hb' => by
      rw [hs]
      exact accSub w' (G i) L m t (HLED.out _ hb') (by rw [← HSN.out]; exact hlt) (by rw [← HSN.out]; exact hsnm)
    have HACC : Hid _ := hacc
    clear hb hcs hacc hs
    go_wp2_with fail
    refine (HACC.out _ (HB.out.alloc HB.out.size _)).mono ?_
    rintro e3 w3 ⟨rfl, hb3⟩
    unfold subT
    have hb3' : Below w.heap.size w w3 := (HB.out.alloc HB.out.size _).trans (hb3.mono (by have := HB.out.size; simp; omega))
    have hnw : wr.heap.size < (wr.alloc (.cells #[.int .i64 ((t : Int) + 1), .string s.team, .string s.tid, .int .i64 s.task, .string s.comp, .int .i64 s.off, .int .i64 s.size, .int .i64 s.mins, .bool s.cnt] 71)).heap.size := by simp
    have hSb : Blk w3 wr.heap.size #[.int .i64 ((t : Int) + 1), .string s.team, .string s.tid, .int .i64 s.task, .string s.comp, .int .i64 s.off, .int .i64 s.size, .int .i64 s.mins, .bool s.cnt] 71 := (hb3.block _ hnw).trans (Blk.new wr _ 71)
    have v0 : w3.cell? ⟨wr.heap.size, 0, none⟩ = some (.int .i64 ((t : Int) + 1)) := hSb.cell 0
    have v1 : w3.cell? ⟨wr.heap.size, 1, none⟩ = some (.string s.team) := hSb.cell 1
    have v2 : w3.cell? ⟨wr.heap.size, 2, none⟩ = some (.string s.tid) := hSb.cell 2
    have v3 : w3.cell? ⟨wr.heap.size, 3, none⟩ = some (.int .i64 s.task) := hSb.cell 3
    have v4 : w3.cell? ⟨wr.heap.size, 4, none⟩ = some (.string s.comp) := hSb.cell 4
    have v5 : w3.cell? ⟨wr.heap.size, 5, none⟩ = some (.int .i64 s.off) := hSb.cell 5
    have v6 : w3.cell? ⟨wr.heap.size, 6, none⟩ = some (.int .i64 s.size) := hSb.cell 6
    have v7 : w3.cell? ⟨wr.heap.size, 7, none⟩ = some (.int .i64 s.mins) := hSb.cell 7
    have v8 : w3.cell? ⟨wr.heap.size, 8, none⟩ = some (.bool s.cnt) := hSb.cell 8
    have HB3 : Hid (Below w.heap.size w w3) := hb3'
    clear hb3 hb3' hnw hSb y0 y1 y2 y3 y4 y5 y6 y7 y8 z8
    go_wp2
    go_round
    case rel => exact ⟨t + 1, by omega, by go_num, HB3.out⟩
    case measure => simp [intOf]; omega
  · obtain rfl : t = sn := by omega
    clear hlt ht HB
    have HB0 : Hid (Below w.heap.size w wr) := hb
    clear hb
    go_wp2
    go_loopw [21] (fun vi wr => ∃ j : Nat, j ≤ qn ∧ vi = .int .i64 j ∧ Below w.heap.size w wr) (fun vi _ => qn - (intOf vi).toNat)
    case atStart => exact ⟨0, Nat.zero_le _, rfl, HB0.out⟩
    case round =>
    clear HB0
    obtain ⟨j, hj, rfl, hb⟩ := hrel
    have z10 : wr.cell? ⟨g, i * 13 + 10, none⟩ = some (.slice qa qn qc) := (hb.cell (p := ⟨g, i * 13 + 10, none⟩) hg).trans HR10.out
    have HB : Hid (Below w.heap.size w wr) := hb
    by_cases hlt : j < qn
    · obtain ⟨q, hq⟩ : ∃ q, m.queue[j]? = some q := ⟨_, List.getElem?_eq_getElem (by rw [← HQN.out]; exact hlt)⟩
      obtain ⟨gs, rfl, hgs, hcs⟩ := HQUE.out j q hq
      have hacc : ∀ w', Below w.heap.size w w' → Calls Tryf.prog 29 #[.pointer (some ⟨L, 0, none⟩), .int .i64 j] w' (AccPost (.int .i64 ((q : Int) + 1)) w') := fun w' hb' => accQid w' (G i) L m j q (HLED.out _ hb') hq (HOK.out.qlt q (List.mem_of_getElem? hq)) (by rw [← HQN.out]; exact hqnm)
      have HACC : Hid (∀ w', Below w.heap.size w w' → Calls Tryf.prog 29 #[.pointer (some ⟨L, 0, none⟩), .int .i64 j] w' (AccPost (.int .i64 ((q : Int) + 1)) w')) := hacc
      have HCS : Hid (w.cell? ⟨gs, j, none⟩ = some (.int .i64 ((q : Int) + 1))) := hcs
      clear hacc hcs hq hb
      go_upto_region 22 with fail
      clear z10
      go_cut [248] from 238 to 247 (fun v wx => v = .bool false ∧ Below w.heap.size w wx)
      case first =>
        have HMK : Hid (∀ w', Below w.heap.size w w' → w'.cell? ⟨g, i * 13 + 10, none⟩ = some (.slice (some ⟨gs, 0, none⟩) qn qc) ∧ w'.cell? ⟨gs, j, none⟩ = some (.int .i64 ((q : Int) + 1))) := fun w' hb => ⟨(hb.cell (p := ⟨g, i * 13 + 10, none⟩) hg).trans HR10.out, (hb.cell (p := ⟨gs, j, none⟩) hgs).trans HCS.out⟩
        refine wp_region_noPanic ?_
        refine wp_region_held_drew (S := fun w' => w'.cell? ⟨g, i * 13 + 10, none⟩ = some (.slice (some ⟨gs, 0, none⟩) qn qc) ∧ w'.cell? ⟨gs, j, none⟩ = some (.int .i64 ((q : Int) + 1))) (by kernel_rfl) (HMK.out _ HB.out.drew) (fun hHeld => ?_)
        refine wpAnyH_take (i := 0) (oi := ⟨some 238, Op.move (Operand.tmp 5), 59, _, _, none⟩) (v := ?v0c) rfl (by kernel_rfl) (by kernel_rfl) (by kernel_rfl) (fun _ _ _ h => h) (Or.inl ⟨by rfl, ?hy0c⟩) (by assumption) ?r0c
        case hy0c =>
          intro w hSw
          try dsimp only at hSw
          go_simp
          try with_reducible rfl
        simp only [Act.put, List.setIfInBounds_toArray, List.set_cons_zero, List.set_cons_succ]
        refine wpAnyH_take (i := 1) (oi := ⟨some 239, Op.move (Operand.tmp 21), 3, _, _, none⟩) (v := ?v1c) rfl (by kernel_rfl) (by kernel_rfl) (by kernel_rfl) (fun _ _ _ h => h) (Or.inl ⟨by rfl, ?hy1c⟩) (by assumption) ?r1c
        case hy1c =>
          intro w hSw
          try dsimp only at hSw
          go_simp
          try with_reducible rfl
        simp only [Act.put, List.setIfInBounds_toArray, List.set_cons_zero, List.set_cons_succ]
        refine wpAnyH_take (i := 3) (oi := ⟨some 241, Op.move (Operand.tmp 1), 37, _, _, none⟩) (v := ?v3c) rfl (by kernel_rfl) (by kernel_rfl) (by kernel_rfl) (fun _ _ _ h => h) (Or.inl ⟨by rfl, ?hy3c⟩) (by assumption) ?r3c
        case hy3c =>
          intro w hSw
          try dsimp only at hSw
          go_simp
          try with_reducible rfl
        simp only [Act.put, List.setIfInBounds_toArray, List.set_cons_zero, List.set_cons_succ]
        refine wpAnyH_take (i := 4) (oi := ⟨some 242, Op.nilCheck (Operand.tmp 241), 0, _, _, none⟩) (v := ?v4c) rfl (by kernel_rfl) (by kernel_rfl) (by kernel_rfl) (fun _ _ _ h => h) (Or.inl ⟨by rfl, ?hy4c⟩) (by assumption) ?r4c
        case hy4c =>
          intro w hSw
          try dsimp only at hSw
          go_simp
          try with_reducible rfl
        simp only [Act.put, List.setIfInBounds_toArray, List.set_cons_zero, List.set_cons_succ]
        refine wpAnyH_take (i := 5) (oi := ⟨some 243, Op.fieldAddr 43 (Operand.tmp 242) 10, 0, _, _, none⟩) (v := ?v5c) rfl (by kernel_rfl) (by kernel_rfl) (by kernel_rfl) (fun _ _ _ h => h) (Or.inl ⟨by rfl, ?hy5c⟩) (by assumption) ?r5c
        case hy5c =>
          intro w hSw
          try dsimp only at hSw
          go_simp
          try with_reducible rfl
        simp only [Act.put, List.setIfInBounds_toArray, List.set_cons_zero, List.set_cons_succ]
        refine wpAnyH_take (i := 6) (oi := ⟨some 244, Op.load 41 (Operand.tmp 243), 41, _, _, none⟩) (v := ?v6c) rfl (by kernel_rfl) (by kernel_rfl) (by kernel_rfl) (fun _ _ _ h => h) (Or.inl ⟨by rfl, ?hy6c⟩) (by assumption) ?r6c
        case hy6c =>
          intro w hSw
          try dsimp only at hSw
          go_simp
          try with_reducible rfl
        simp only [Act.put, List.setIfInBounds_toArray, List.set_cons_zero, List.set_cons_succ]
        refine wpAnyH_take (i := 7) (oi := ⟨some 245, Op.move (Operand.tmp 21), 3, _, _, none⟩) (v := ?v7c) rfl (by kernel_rfl) (by kernel_rfl) (by kernel_rfl) (fun _ _ _ h => h) (Or.inl ⟨by rfl, ?hy7c⟩) (by assumption) ?r7c
        case hy7c =>
          intro w hSw
          try dsimp only at hSw
          go_simp
          try with_reducible rfl
        simp only [Act.put, List.setIfInBounds_toArray, List.set_cons_zero, List.set_cons_succ]
        refine wpAnyH_take (i := 8) (oi := ⟨some 246, Op.indexAddr 41 (Operand.tmp 244) (Operand.tmp 245), 0, _, _, none⟩) (v := ?v8c) rfl (by kernel_rfl) (by kernel_rfl) (by kernel_rfl) (fun _ _ _ h => h) (Or.inl ⟨by rfl, ?hy8c⟩) (by assumption) ?r8c
        case hy8c =>
          intro w hSw
          try dsimp only at hSw
          go_simp
          try with_reducible rfl
        simp only [Act.put, List.setIfInBounds_toArray, List.set_cons_zero, List.set_cons_succ]
        refine wpAnyH_take (i := 9) (oi := ⟨some 247, Op.load 3 (Operand.tmp 246), 3, _, _, none⟩) (v := ?v9c) rfl (by kernel_rfl) (by kernel_rfl) (by kernel_rfl) (fun _ _ _ h => h) (Or.inl ⟨by rfl, ?hy9c⟩) (by assumption) ?r9c
        case hy9c =>
          intro w hSw
          try dsimp only at hSw
          go_simp
          try with_reducible rfl
        simp only [Act.put, List.setIfInBounds_toArray, List.set_cons_zero, List.set_cons_succ]
        refine wpAnyH_ready (rs := [2]) (by kernel_rfl) (by simp) ?_
        refine AllReadyH.cons rfl (fun K hK => ?_) AllReadyH.nil
        go_simp
        refine (HACC.out _ HB.out.drew).mono ?_
        rintro e2 w2 ⟨rfl, hb2⟩
        have hb2' : Below w.heap.size w w2 := HB.out.drew.trans (hb2.mono (by exact HB.out.drew.size))
        show K _ _
        refine hK.out _ _ (HMK.out _ hb2') (fun hHeldB => ?_)
        clear hK K hHeld
        try simp only [Act.put, List.setIfInBounds_toArray, List.set_cons_zero, List.set_cons_succ]
        refine wpAnyH_take (i := 10) (oi := ⟨some 248, Op.binOp BinOp.neq 3 (Operand.tmp 240) (Operand.tmp 247) 3, 4, _, _, none⟩) (v := ?v10c) rfl (by kernel_rfl) (by kernel_rfl) (by kernel_rfl) (fun _ _ _ h => h) (Or.inl ⟨by rfl, ?hy10c⟩) (by assumption) ?r10c
        case hy10c =>
          intro w hSw
          try dsimp only at hSw
          go_simp
          try with_reducible rfl
        simp only [Act.put, List.setIfInBounds_toArray, List.set_cons_zero, List.set_cons_succ]
        refine wpAnyH_done (by kernel_rfl) ?_ _
        refine NoPanic.normal ?_
        go_wp2_with fail
        all_goals go_meet
        all_goals exact ⟨rfl, hb2'⟩
      case rest =>
      rename World => wy
      obtain ⟨rfl, hby⟩ := hcut
      have HBY : Hid (Below w.heap.size w wy) := hby
      clear hby HACC HB
      go_wp2
      go_round
      case rel => exact ⟨j + 1, by omega, by go_num, HBY.out⟩
      case measure => simp [intOf]; omega
    · obtain rfl : j = qn := by omega
      clear hlt hj HB
      have HB0 : Hid (Below w.heap.size w wr) := hb
      clear hb
      go_wp2
      go_loopw [22] (fun vi wr => ∃ j : Nat, j ≤ rn ∧ vi = .int .i64 j ∧ Below w.heap.size w wr) (fun vi _ => rn - (intOf vi).toNat)
      case atStart => exact ⟨0, Nat.zero_le _, rfl, HB0.out⟩
      case round =>
      clear HB0
      obtain ⟨k, hk, rfl, hb⟩ := hrel
      have z11 : wr.cell? ⟨g, i * 13 + 11, none⟩ = some (.slice aa rn ac) := (hb.cell (p := ⟨g, i * 13 + 11, none⟩) hg).trans HR11.out
      have HB : Hid (Below w.heap.size w wr) := hb
      by_cases hlt : k < rn
      · obtain ⟨q, hq⟩ : ∃ q, m.recs[k]? = some q := ⟨_, List.getElem?_eq_getElem (by rw [← HRN.out]; exact hlt)⟩
        obtain ⟨gs, rfl, hgs, hcs⟩ := HRA.out k q hq
        obtain ⟨gt, rfl, hgt, hct⟩ := HRB.out k q hq
        have hacc := accRec wr (G i) L m k q (HLED.out _ hb) hq (HOK.out.rlt q (List.mem_of_getElem? hq)) (by rw [← HRN.out]; exact hrnm)
        have HCS : Hid (w.cell? ⟨gs, k, none⟩ = some (.int .i64 ((q.1 : Int) + 1))) := hcs
        have HCT : Hid (w.cell? ⟨gt, k, none⟩ = some (.int .i64 q.2)) := hct
        clear hcs hct hq hb
        go_wp2_with fail
        refine hacc.mono ?_
        rintro e3 w3 ⟨rfl, hb3⟩
        have hb3' : Below w.heap.size w w3 := HB.out.trans (hb3.mono HB.out.size)
        have y11 : w3.cell? ⟨g, i * 13 + 11, none⟩ = some (.slice (some ⟨gs, 0, none⟩) rn ac) := (hb3'.cell (p := ⟨g, i * 13 + 11, none⟩) hg).trans HR11.out
        have y12 : w3.cell? ⟨g, i * 13 + 12, none⟩ = some (.slice (some ⟨gt, 0, none⟩) rn bc) := (hb3'.cell (p := ⟨g, i * 13 + 12, none⟩) hg).trans HR12.out
        have ys : w3.cell? ⟨gs, k, none⟩ = some (.int .i64 ((q.1 : Int) + 1)) := (hb3'.cell (p := ⟨gs, k, none⟩) hgs).trans HCS.out
        have yt : w3.cell? ⟨gt, k, none⟩ = some (.int .i64 q.2) := (hb3'.cell (p := ⟨gt, k, none⟩) hgt).trans HCT.out
        have HB3 : Hid (Below w.heap.size w w3) := hb3'
        clear hb3 hb3' hacc z11
        go_wp2
        go_round
        case rel => exact ⟨k + 1, by omega, by go_num, HB3.out⟩
        case measure => simp [intOf]; omega
      · obtain rfl : k = rn := by omega
        clear hlt hk HB
        have HB0 : Hid (Below w.heap.size w wr) := hb
        clear hb
        go_wp2
        go_loopw [25] (fun vi wr => ∃ j : Nat, j ≤ dn ∧ vi = .int .i64 j ∧ Below w.heap.size w wr) (fun vi _ => dn - (intOf vi).toNat)
        case atStart => exact ⟨0, Nat.zero_le _, rfl, HB0.out⟩
        case round =>
        clear HB0
        obtain ⟨d, hd, rfl, hb⟩ := hrel
        have z1 : wr.cell? ⟨g, i * 13 + 1, none⟩ = some (.slice da dn dc) := (hb.cell (p := ⟨g, i * 13 + 1, none⟩) hg).trans HR1.out
        have HB : Hid (Below w.heap.size w wr) := hb
        by_cases hlt : d < dn
        · obtain ⟨c, hc⟩ : ∃ c, m.disq[d]? = some c := ⟨_, List.getElem?_eq_getElem (by rw [← HDN.out]; exact hlt)⟩
          obtain ⟨gs, rfl, hgs, hcs⟩ := HDIS.out d c hc
          have hacc := accDis wr (G i) L m c (HLED.out _ hb) (List.mem_of_getElem? hc) (HOK.out.dsz c (List.mem_of_getElem? hc))
          have ys : wr.cell? ⟨gs, d, none⟩ = some (.string c) := (hb.cell (p := ⟨gs, d, none⟩) hgs).trans hcs
          clear hcs hc hb
          go_wp2_with fail
          refine hacc.mono ?_
          rintro e3 w3 ⟨rfl, hb3⟩
          have hb3' : Below w.heap.size w w3 := HB.out.trans (hb3.mono HB.out.size)
          have HB3 : Hid (Below w.heap.size w w3) := hb3'
          clear hb3 hb3' hacc z1 ys
          go_wp2
          go_round
          case rel => exact ⟨d + 1, by omega, by go_num, HB3.out⟩
          case measure => simp [intOf]; omega
        · obtain rfl : d = dn := by omega
          clear hlt hd HB
          have HB0 : Hid (Below w.heap.size w wr) := hb
          clear hb
          go_wp2
          go_loopw [26] (fun vi wr => ∃ j : Nat, j ≤ kn ∧ vi = .int .i64 j ∧ Below w.heap.size w wr) (fun vi _ => kn - (intOf vi).toNat)
          case atStart => exact ⟨0, Nat.zero_le _, rfl, HB0.out⟩
          case round =>
          clear HB0
          obtain ⟨o, ho, rfl, hb⟩ := hrel
          have z9 : wr.cell? ⟨g, i * 13 + 9, none⟩ = some (.slice ka kn kc) := (hb.cell (p := ⟨g, i * 13 + 9, none⟩) hg).trans HR9.out
          have HB : Hid (Below w.heap.size w wr) := hb
          by_cases hlt : o < kn
          · obtain ⟨gs, rfl, hgs, hcs, hct⟩ := HKEY.out o hlt
            have hkm : keyAt m.solved o ∈ m.solved := keyAt_mem (by rw [← HKN.out]; exact hlt)
            obtain ⟨kt, hkt⟩ : ∃ kt, kt = (keyAt m.solved o).1 := ⟨_, rfl⟩
            obtain ⟨kz, hkz⟩ : ∃ kz, kz = (keyAt m.solved o).2 := ⟨_, rfl⟩
            rw [← hkt] at hcs
            rw [← hkz] at hct
            have hke : (kt, kz) = keyAt m.solved o := by rw [hkt, hkz]
            have hacc : ∀ w', Below w.heap.size w w' → Calls Tryf.prog 32 #[.pointer (some ⟨L, 0, none⟩), .string kt, .int .i64 kz] w' (AccPost (.bool true) w') := fun w' hb' => accSol w' (G i) L m kt kz (HLED.out _ hb') (by rw [hke]; exact hkm) (by rw [hke]; exact HOK.out.ssz _ hkm)
            have HACC : Hid (∀ w', Below w.heap.size w w' → Calls Tryf.prog 32 #[.pointer (some ⟨L, 0, none⟩), .string kt, .int .i64 kz] w' (AccPost (.bool true) w')) := hacc
            have HCS : Hid (w.cell? ⟨gs, o * 2, none⟩ = some (.string kt)) := hcs
            have HCT : Hid (w.cell? ⟨gs, o * 2 + 1, none⟩ = some (.int .i64 kz)) := hct
            clear hacc hcs hct hkm hkt hkz hke hb
            go_upto_region 38 with fail
            clear z9
            go_cut [330] from 312 to 329 (fun v wx => v = .bool false ∧ Below w.heap.size w wx)
            case first =>
              have HMK : Hid (∀ w', Below w.heap.size w w' → w'.cell? ⟨g, i * 13 + 9, none⟩ = some (.slice (some ⟨gs, 0, none⟩) kn kc) ∧ w'.cell? ⟨gs, o * 2, none⟩ = some (.string kt) ∧ w'.cell? ⟨gs, o * 2 + 1, none⟩ = some (.int .i64 kz)) := fun w' hb => ⟨(hb.cell (p := ⟨g, i * 13 + 9, none⟩) hg).trans HR9.out, (hb.cell (p := ⟨gs, o * 2, none⟩) hgs).trans HCS.out, (hb.cell (p := ⟨gs, o * 2 + 1, none⟩) hgs).trans HCT.out⟩
              refine wp_region_noPanic ?_
              refine wp_region_held_drew (S := fun w' => w'.cell? ⟨g, i * 13 + 9, none⟩ = some (.slice (some ⟨gs, 0, none⟩) kn kc) ∧ w'.cell? ⟨gs, o * 2, none⟩ = some (.string kt) ∧ w'.cell? ⟨gs, o * 2 + 1, none⟩ = some (.int .i64 kz)) (by kernel_rfl) (HMK.out _ HB.out.drew) (fun hHeld => ?_)
              refine wpAnyH_take (i := 0) (oi := ⟨some 312, Op.move (Operand.tmp 5), 59, _, _, none⟩) (v := ?v0d) rfl (by kernel_rfl) (by kernel_rfl) (by kernel_rfl) (fun _ _ _ h => h) (Or.inl ⟨by rfl, ?hy0d⟩) (by assumption) ?r0d
              case hy0d =>
                intro w hSw
                try dsimp only at hSw
                go_simp
                try with_reducible rfl
              simp only [Act.put, List.setIfInBounds_toArray, List.set_cons_zero, List.set_cons_succ]
              refine wpAnyH_take (i := 1) (oi := ⟨some 313, Op.move (Operand.tmp 1), 37, _, _, none⟩) (v := ?v1d) rfl (by kernel_rfl) (by kernel_rfl) (by kernel_rfl) (fun _ _ _ h => h) (Or.inl ⟨by rfl, ?hy1d⟩) (by assumption) ?r1d
              case hy1d =>
                intro w hSw
                try dsimp only at hSw
                go_simp
                try with_reducible rfl
              simp only [Act.put, List.setIfInBounds_toArray, List.set_cons_zero, List.set_cons_succ]
              refine wpAnyH_take (i := 2) (oi := ⟨some 314, Op.nilCheck (Operand.tmp 313), 0, _, _, none⟩) (v := ?v2d) rfl (by kernel_rfl) (by kernel_rfl) (by kernel_rfl) (fun _ _ _ h => h) (Or.inl ⟨by rfl, ?hy2d⟩) (by assumption) ?r2d
              case hy2d =>
                intro w hSw
                try dsimp only at hSw
                go_simp
                try with_reducible rfl
              simp only [Act.put, List.setIfInBounds_toArray, List.set_cons_zero, List.set_cons_succ]
              refine wpAnyH_take (i := 3) (oi := ⟨some 315, Op.fieldAddr 43 (Operand.tmp 314) 9, 0, _, _, none⟩) (v := ?v3d) rfl (by kernel_rfl) (by kernel_rfl) (by kernel_rfl) (fun _ _ _ h => h) (Or.inl ⟨by rfl, ?hy3d⟩) (by assumption) ?r3d
              case hy3d =>
                intro w hSw
                try dsimp only at hSw
                go_simp
                try with_reducible rfl
              simp only [Act.put, List.setIfInBounds_toArray, List.set_cons_zero, List.set_cons_succ]
              refine wpAnyH_take (i := 4) (oi := ⟨some 316, Op.load 40 (Operand.tmp 315), 40, _, _, none⟩) (v := ?v4d) rfl (by kernel_rfl) (by kernel_rfl) (by kernel_rfl) (fun _ _ _ h => h) (Or.inl ⟨by rfl, ?hy4d⟩) (by assumption) ?r4d
              case hy4d =>
                intro w hSw
                try dsimp only at hSw
                go_simp
                try with_reducible rfl
              simp only [Act.put, List.setIfInBounds_toArray, List.set_cons_zero, List.set_cons_succ]
              refine wpAnyH_take (i := 5) (oi := ⟨some 317, Op.move (Operand.tmp 26), 3, _, _, none⟩) (v := ?v5d) rfl (by kernel_rfl) (by kernel_rfl) (by kernel_rfl) (fun _ _ _ h => h) (Or.inl ⟨by rfl, ?hy5d⟩) (by assumption) ?r5d
              case hy5d =>
                intro w hSw
                try dsimp only at hSw
                go_simp
                try with_reducible rfl
              simp only [Act.put, List.setIfInBounds_toArray, List.set_cons_zero, List.set_cons_succ]
              refine wpAnyH_take (i := 6) (oi := ⟨some 318, Op.indexAddr 40 (Operand.tmp 316) (Operand.tmp 317), 0, _, _, none⟩) (v := ?v6d) rfl (by kernel_rfl) (by kernel_rfl) (by kernel_rfl) (fun _ _ _ h => h) (Or.inl ⟨by rfl, ?hy6d⟩) (by assumption) ?r6d
              case hy6d =>
                intro w hSw
                try dsimp only at hSw
                go_simp
                try with_reducible rfl
              simp only [Act.put, List.setIfInBounds_toArray, List.set_cons_zero, List.set_cons_succ]
              refine wpAnyH_take (i := 7) (oi := ⟨some 319, Op.fieldAddr 68 (Operand.tmp 318) 0, 0, _, _, none⟩) (v := ?v7d) rfl (by kernel_rfl) (by kernel_rfl) (by kernel_rfl) (fun _ _ _ h => h) (Or.inl ⟨by rfl, ?hy7d⟩) (by assumption) ?r7d
              case hy7d =>
                intro w hSw
                try dsimp only at hSw
                go_simp
                try with_reducible rfl
              simp only [Act.put, List.setIfInBounds_toArray, List.set_cons_zero, List.set_cons_succ]
              refine wpAnyH_take (i := 8) (oi := ⟨some 320, Op.load 9 (Operand.tmp 319), 9, _, _, none⟩) (v := ?v8d) rfl (by kernel_rfl) (by kernel_rfl) (by kernel_rfl) (fun _ _ _ h => h) (Or.inl ⟨by rfl, ?hy8d⟩) (by assumption) ?r8d
              case hy8d =>
                intro w hSw
                try dsimp only at hSw
                go_simp
                try with_reducible rfl
              simp only [Act.put, List.setIfInBounds_toArray, List.set_cons_zero, List.set_cons_succ]
              refine wpAnyH_take (i := 9) (oi := ⟨some 321, Op.move (Operand.tmp 1), 37, _, _, none⟩) (v := ?v9d) rfl (by kernel_rfl) (by kernel_rfl) (by kernel_rfl) (fun _ _ _ h => h) (Or.inl ⟨by rfl, ?hy9d⟩) (by assumption) ?r9d
              case hy9d =>
                intro w hSw
                try dsimp only at hSw
                go_simp
                try with_reducible rfl
              simp only [Act.put, List.setIfInBounds_toArray, List.set_cons_zero, List.set_cons_succ]
              refine wpAnyH_take (i := 10) (oi := ⟨some 322, Op.nilCheck (Operand.tmp 321), 0, _, _, none⟩) (v := ?v10d) rfl (by kernel_rfl) (by kernel_rfl) (by kernel_rfl) (fun _ _ _ h => h) (Or.inl ⟨by rfl, ?hy10d⟩) (by assumption) ?r10d
              case hy10d =>
                intro w hSw
                try dsimp only at hSw
                go_simp
                try with_reducible rfl
              simp only [Act.put, List.setIfInBounds_toArray, List.set_cons_zero, List.set_cons_succ]
              refine wpAnyH_take (i := 11) (oi := ⟨some 323, Op.fieldAddr 43 (Operand.tmp 322) 9, 0, _, _, none⟩) (v := ?v11d) rfl (by kernel_rfl) (by kernel_rfl) (by kernel_rfl) (fun _ _ _ h => h) (Or.inl ⟨by rfl, ?hy11d⟩) (by assumption) ?r11d
              case hy11d =>
                intro w hSw
                try dsimp only at hSw
                go_simp
                try with_reducible rfl
              simp only [Act.put, List.setIfInBounds_toArray, List.set_cons_zero, List.set_cons_succ]
              refine wpAnyH_take (i := 12) (oi := ⟨some 324, Op.load 40 (Operand.tmp 323), 40, _, _, none⟩) (v := ?v12d) rfl (by kernel_rfl) (by kernel_rfl) (by kernel_rfl) (fun _ _ _ h => h) (Or.inl ⟨by rfl, ?hy12d⟩) (by assumption) ?r12d
              case hy12d =>
                intro w hSw
                try dsimp only at hSw
                go_simp
                try with_reducible rfl
              simp only [Act.put, List.setIfInBounds_toArray, List.set_cons_zero, List.set_cons_succ]
              refine wpAnyH_take (i := 13) (oi := ⟨some 325, Op.move (Operand.tmp 26), 3, _, _, none⟩) (v := ?v13d) rfl (by kernel_rfl) (by kernel_rfl) (by kernel_rfl) (fun _ _ _ h => h) (Or.inl ⟨by rfl, ?hy13d⟩) (by assumption) ?r13d
              case hy13d =>
                intro w hSw
                try dsimp only at hSw
                go_simp
                try with_reducible rfl
              simp only [Act.put, List.setIfInBounds_toArray, List.set_cons_zero, List.set_cons_succ]
              refine wpAnyH_take (i := 14) (oi := ⟨some 326, Op.indexAddr 40 (Operand.tmp 324) (Operand.tmp 325), 0, _, _, none⟩) (v := ?v14d) rfl (by kernel_rfl) (by kernel_rfl) (by kernel_rfl) (fun _ _ _ h => h) (Or.inl ⟨by rfl, ?hy14d⟩) (by assumption) ?r14d
              case hy14d =>
                intro w hSw
                try dsimp only at hSw
                go_simp
                try with_reducible rfl
              simp only [Act.put, List.setIfInBounds_toArray, List.set_cons_zero, List.set_cons_succ]
              refine wpAnyH_take (i := 15) (oi := ⟨some 327, Op.fieldAddr 68 (Operand.tmp 326) 1, 0, _, _, none⟩) (v := ?v15d) rfl (by kernel_rfl) (by kernel_rfl) (by kernel_rfl) (fun _ _ _ h => h) (Or.inl ⟨by rfl, ?hy15d⟩) (by assumption) ?r15d
              case hy15d =>
                intro w hSw
                try dsimp only at hSw
                go_simp
                try with_reducible rfl
              simp only [Act.put, List.setIfInBounds_toArray, List.set_cons_zero, List.set_cons_succ]
              refine wpAnyH_take (i := 16) (oi := ⟨some 328, Op.load 2 (Operand.tmp 327), 2, _, _, none⟩) (v := ?v16d) rfl (by kernel_rfl) (by kernel_rfl) (by kernel_rfl) (fun _ _ _ h => h) (Or.inl ⟨by rfl, ?hy16d⟩) (by assumption) ?r16d
              case hy16d =>
                intro w hSw
                try dsimp only at hSw
                go_simp
                try with_reducible rfl
              simp only [Act.put, List.setIfInBounds_toArray, List.set_cons_zero, List.set_cons_succ]
              refine wpAnyH_ready (rs := [17]) (by kernel_rfl) (by simp) ?_
              refine AllReadyH.cons rfl (fun K hK => ?_) AllReadyH.nil
              go_simp
              refine (HACC.out _ HB.out.drew).mono ?_
              rintro e17 w17 ⟨rfl, hb17⟩
              have hb17' : Below w.heap.size w w17 := HB.out.drew.trans (hb17.mono (by exact HB.out.drew.size))
              show K _ _
              refine hK.out _ _ (HMK.out _ hb17') (fun hHeldB => ?_)
              clear hK K hHeld
              try simp only [Act.put, List.setIfInBounds_toArray, List.set_cons_zero, List.set_cons_succ]
              refine wpAnyH_take (i := 18) (oi := ⟨some 330, Op.unOp UnOp.not 4 (Operand.tmp 329), 4, _, _, none⟩) (v := ?v18d) rfl (by kernel_rfl) (by kernel_rfl) (by kernel_rfl) (fun _ _ _ h => h) (Or.inl ⟨by rfl, ?hy18d⟩) (by assumption) ?r18d
              case hy18d =>
                intro w hSw
                try dsimp only at hSw
                go_simp
                try with_reducible rfl
              simp only [Act.put, List.setIfInBounds_toArray, List.set_cons_zero, List.set_cons_succ]
              refine wpAnyH_done (by kernel_rfl) ?_ _
              refine NoPanic.normal ?_
              go_wp2_with fail
              all_goals go_meet
              all_goals exact ⟨rfl, hb17'⟩
            case rest =>
            rename World => wy
            obtain ⟨rfl, hby⟩ := hcut
            have HBY : Hid (Below w.heap.size w wy) := hby
            clear hby HACC HB
            go_wp2
            go_round
            case rel => exact ⟨o + 1, by omega, by go_num, HBY.out⟩
            case measure => simp [intOf]; omega
          · obtain rfl : o = kn := by omega
            clear hlt ho
            go_wp2
            go_ret
            exact ⟨rfl, HB.out⟩
end Go.Proofs.Qxb6616853aFmt
