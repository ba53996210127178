import Derived.Test.Qxb6616853aFmtPush
import Derived.Deep.AppendLies
namespace Go.Proofs.Qxb6616853aFmt
open Go.RowKit
attribute [local go_sem ↓] Go.wp_at_zero Go.wp_at_succ

def recC (vm : Value) (e : PEv) : Array Value := #[vm, .int .i64 e.off, .int .i64 e.size]

/-- Behind the new submission: its block. -/
def SubCut (w W : World) (L n : Nat) (s : PSub) (v : Value) (wx : World) : Prop :=
  ∃ p, v = .pointer (some ⟨p, 0, none⟩) ∧ w.heap.size ≤ p ∧ Blk wx p (subC L n s) 112 ∧ Below W.heap.size W wx

theorem clamp_I64 (D : Int) : -9223372036854775808 ≤ clamp D ∧ clamp D ≤ 9223372036854775807 := by
  unfold clamp
  split <;> (try split) <;> omega

theorem tdiv_I64 {d : Int} (d0 : -9223372036854775808 ≤ d) (d1 : d ≤ 9223372036854775807) : -9223372036854775808 ≤ d.tdiv 60000000000 ∧ d.tdiv 60000000000 ≤ 9223372036854775807 := by
  have hr := Int.tmod_add_mul_tdiv d 60000000000
  have h1 := Int.tmod_lt_of_pos d (b := 60000000000) (by omega)
  have h2 := Int.lt_tmod_of_pos d (b := 60000000000) (by omega)
  omega

theorem mins_walk {d a st : Int} (h : d = clamp (a - st)) : max 0 (d.tdiv 60000000000) = minsOf a st := by
  unfold minsOf
  rw [← h]
  split <;> omega

theorem news_one (w : World) (n : Nat) (hn : n = w.heap.size) (v : Value) (t : TypeId) : ∀ j u, [v][j]? = some u → (w.alloc (.cells #[v] t)).cell? ((⟨n, 0, none⟩ : Addr).add j) = some u := by
  intro j u hj
  rcases j with _ | j
  · simp at hj
    subst hj
    rw [Addr.add_lit, World.cell?_alloc_at #[v] t n (0 + 0) hn]
    rfl
  · simp at hj

set_option maxRecDepth 20000 in
set_option maxHeartbeats 8000000 in
theorem submit_any (w : World) (F : Nat → Prop) (L : Nat) (m : PLed) (N : Nat) (e : PEv) (vt vn vm vb : Value) (h : IsLed w F L m) (hm : m.Ok N) (hN : N ≤ 4096) (he : e.Ok) (hby : IsBytes w vt e.tid) :
    Calls Tryf.prog 44 #[.pointer (some ⟨L, 0, none⟩), .agg (evC e vt vn vm), .agg (recC vb e)] w (LedPost w F L (m.submit e)) := by
  obtain ⟨⟨dm, sm, es, ck, es2, ck2, vs, vq, vr, ps⟩, h⟩ := h
  obtain ⟨sa, cs, hvs⟩ := owns_form h.subs
  obtain ⟨qa, qc, hvq⟩ := owns_form h.queue
  dsimp only at hvs hvq
  subst hvs hvq
  have hL := h.led.lt
  have hsl : sm < w.heap.size := h.below sm h.fsm
  obtain ⟨ta, tl, tc, rfl⟩ := hby.form
  obtain ⟨W, hW0⟩ : ∃ W, W = (w.alloc (.cells (evC e (.slice ta tl tc) vn vm) 97)).alloc (.cells (recC vb e) 100) := ⟨_, rfl⟩
  have hW : Hid (W = (w.alloc (.cells (evC e (.slice ta tl tc) vn vm) 97)).alloc (.cells (recC vb e) 100)) := hW0
  have hWs : W.heap.size = w.heap.size + 2 := by rw [hW0]; simp
  have hWb : Below w.heap.size w W := by rw [hW0]; exact ((Below.refl _ _).alloc (Nat.le_refl _) _).alloc (by simp) _
  have hLW : Blk W L (ledC m dm sm (.slice sa m.subs.length cs) (.slice qa m.queue.length qc) vr) 108 := h.led.below hWb hL
  have hEW : Blk W w.heap.size (evC e (.slice ta tl tc) vn vm) 97 := by rw [hW0]; exact (Blk.new _ _ _).alloc _
  have hRW : Blk W (w.heap.size + 1) (recC vb e) 100 := by
    have := Blk.new (w.alloc (.cells (evC e (.slice ta tl tc) vn vm) 97)) (recC vb e) 100
    rw [hW0]
    simpa using this
  have l10 : W.cell? ⟨L, 10, none⟩ = some (.slice sa m.subs.length cs) := hLW.cell 10
  have l2 : W.cell? ⟨L, 2, none⟩ = some (.int .u64 (nsOf m.st)) := hLW.cell 2
  have l3 : W.cell? ⟨L, 3, none⟩ = some (.int .i64 (scOf m.st)) := hLW.cell 3
  have l4 : W.cell? ⟨L, 4, none⟩ = some (.pointer none) := hLW.cell 4
  have l11 : W.cell? ⟨L, 11, none⟩ = some (.map (some sm)) := hLW.cell 11
  have e2 : W.cell? ⟨w.heap.size, 2, none⟩ = some (.int .u64 (nsOf e.at_)) := hEW.cell 2
  have e3 : W.cell? ⟨w.heap.size, 3, none⟩ = some (.int .i64 (scOf e.at_)) := hEW.cell 3
  have e4 : W.cell? ⟨w.heap.size, 4, none⟩ = some (.pointer none) := hEW.cell 4
  have e5 : W.cell? ⟨w.heap.size, 5, none⟩ = some (.string e.team) := hEW.cell 5
  have e6 : W.cell? ⟨w.heap.size, 6, none⟩ = some (.slice ta tl tc) := hEW.cell 6
  have e7 : W.cell? ⟨w.heap.size, 7, none⟩ = some (.int .i64 e.task) := hEW.cell 7
  have e8 : W.cell? ⟨w.heap.size, 8, none⟩ = some (.string e.comp) := hEW.cell 8
  have e9 : W.cell? ⟨w.heap.size, 9, none⟩ = some (.bool e.force) := hEW.cell 9
  have r1 : W.cell? ⟨w.heap.size + 1, 1, none⟩ = some (.int .i64 e.off) := hRW.cell 1
  have r2 : W.cell? ⟨w.heap.size + 1, 2, none⟩ = some (.int .i64 e.size) := hRW.cell 2
  have HBY : Hid (IsBytes W (.slice ta tl tc) e.tid) := hby.below hWb (Nat.le_refl _)
  obtain ⟨sb, hsb⟩ : ∃ sb, sb = memK m.solved e.team e.task := ⟨_, rfl⟩
  have hlk0 : ∀ w', Below W.heap.size W w' → (Instr.lookup 103 (.map (some sm)) (.agg #[.string e.team, .int .i64 e.task]) false).run Tryf.prog w' = .ok (.bool sb) w' := fun w' hb => by
    rw [hsb]
    exact SolMap.lookup h.sol ((hb.block sm (by omega)).trans ((hWb.block sm hsl).trans h.smap)) he.team he.task
  have HLK : Hid _ := hlk0
  have HH : Hid (LedAt w F L m ⟨dm, sm, es, ck, es2, ck2, .slice sa m.subs.length cs, .slice qa m.queue.length qc, vr, ps⟩) := h
  have HEW : Hid (Blk W w.heap.size (evC e (.slice ta tl tc) vn vm) 97) := hEW
  have HWB : Hid (Below w.heap.size w W) := hWb
  have HLW : Hid (Blk W L (ledC m dm sm (.slice sa m.subs.length cs) (.slice qa m.queue.length qc) vr) 108) := hLW
  have HWS : Hid (W.heap.size = w.heap.size + 2) := hWs
  have HM0 : Hid (m.Ok N) := hm
  have HE0 : Hid (e.Ok) := he
  have a0 := sc_lo he.at_.1
  have a1 := sc_hi he.at_.2
  have s0 := sc_lo hm.st.1
  have s1 := sc_hi hm.st.2
  have hT : m.subs.length ≤ 4096 := Nat.le_trans hm.subs hN
  have hQ : m.queue.length ≤ 4096 := Nat.le_trans hm.queue hN
  have HNS : Hid (m.newSub e = ⟨e.team, e.tid, e.task, e.comp, e.off, e.size, minsOf e.at_ m.st, !e.force || !sb⟩) := by rw [hsb]; rfl
  have HSB : Hid (sb = memK m.solved e.team e.task) := hsb
  obtain ⟨n, hn⟩ : ∃ n, n = m.subs.length := ⟨_, rfl⟩
  have HN : Hid (n = m.subs.length) := hn
  obtain ⟨q, hqq⟩ : ∃ q, q = m.queue.length := ⟨_, rfl⟩
  have HQ : Hid (q = m.queue.length) := hqq
  rw [← hn] at l10 hT
  rw [← hqq] at hQ
  have hWz : w.heap.size + 2 ≤ W.heap.size := by omega
  clear h hEW hRW hLW hWb hWs hW0 hn hqq hsb hlk0 hm he hby
  have hwr : IntKind.i64.wrap ((n : Int) + 1) = (n : Int) + 1 := by rw [IntKind.wrap_i64]; omega
  unfold evC recC at hW ⊢
  go_enter Tryf.func44, Tryf.ntmps44
  go_upto_region 1 with fail
  rw [← hW.out]
  generalize hfo : e.force = fo at *
  go_cut [6] from 7 (fun v wx => SubCut w W L n (m.newSub e) v wx)
  case first =>
    clear hW
    cases fo
    case false =>
      have HMK : Hid (∀ w', Below W.heap.size W w' → w'.cell? ⟨L, 10, none⟩ = some (.slice sa n cs) ∧ w'.cell? ⟨L, 2, none⟩ = some (.int .u64 (nsOf m.st)) ∧ w'.cell? ⟨L, 3, none⟩ = some (.int .i64 (scOf m.st)) ∧ w'.cell? ⟨L, 4, none⟩ = some (.pointer none) ∧ w'.cell? ⟨L, 11, none⟩ = some (.map (some sm)) ∧ w'.cell? ⟨w.heap.size, 2, none⟩ = some (.int .u64 (nsOf e.at_)) ∧ w'.cell? ⟨w.heap.size, 3, none⟩ = some (.int .i64 (scOf e.at_)) ∧ w'.cell? ⟨w.heap.size, 4, none⟩ = some (.pointer none) ∧ w'.cell? ⟨w.heap.size, 5, none⟩ = some (.string e.team) ∧ w'.cell? ⟨w.heap.size, 6, none⟩ = some (.slice ta tl tc) ∧ w'.cell? ⟨w.heap.size, 7, none⟩ = some (.int .i64 e.task) ∧ w'.cell? ⟨w.heap.size, 8, none⟩ = some (.string e.comp) ∧ w'.cell? ⟨w.heap.size, 9, none⟩ = some (.bool false) ∧ w'.cell? ⟨w.heap.size + 1, 1, none⟩ = some (.int .i64 e.off) ∧ w'.cell? ⟨w.heap.size + 1, 2, none⟩ = some (.int .i64 e.size) ∧ (convert 30 9 (.slice ta tl tc)).run Tryf.prog w' = .ok (.string e.tid) w') := by
        intro w' hb
        exact ⟨(hb.cell (p := ⟨L, 10, none⟩) (by show L < _; omega)).trans l10, (hb.cell (p := ⟨L, 2, none⟩) (by show L < _; omega)).trans l2, (hb.cell (p := ⟨L, 3, none⟩) (by show L < _; omega)).trans l3, (hb.cell (p := ⟨L, 4, none⟩) (by show L < _; omega)).trans l4, (hb.cell (p := ⟨L, 11, none⟩) (by show L < _; omega)).trans l11, (hb.cell (p := ⟨w.heap.size, 2, none⟩) (by show w.heap.size < _; omega)).trans e2, (hb.cell (p := ⟨w.heap.size, 3, none⟩) (by show w.heap.size < _; omega)).trans e3, (hb.cell (p := ⟨w.heap.size, 4, none⟩) (by show w.heap.size < _; omega)).trans e4, (hb.cell (p := ⟨w.heap.size, 5, none⟩) (by show w.heap.size < _; omega)).trans e5, (hb.cell (p := ⟨w.heap.size, 6, none⟩) (by show w.heap.size < _; omega)).trans e6, (hb.cell (p := ⟨w.heap.size, 7, none⟩) (by show w.heap.size < _; omega)).trans e7, (hb.cell (p := ⟨w.heap.size, 8, none⟩) (by show w.heap.size < _; omega)).trans e8, (hb.cell (p := ⟨w.heap.size, 9, none⟩) (by show w.heap.size < _; omega)).trans e9, (hb.cell (p := ⟨w.heap.size + 1, 1, none⟩) (by show w.heap.size + 1 < _; omega)).trans r1, (hb.cell (p := ⟨w.heap.size + 1, 2, none⟩) (by show w.heap.size + 1 < _; omega)).trans r2, (IsBytes.below HBY.out hb (Nat.le_refl _)).conv⟩
      refine wp_region_noPanic ?_
      refine wp_region_held_drew (S := (fun w' => w'.cell? ⟨L, 10, none⟩ = some (.slice sa n cs) ∧ w'.cell? ⟨L, 2, none⟩ = some (.int .u64 (nsOf m.st)) ∧ w'.cell? ⟨L, 3, none⟩ = some (.int .i64 (scOf m.st)) ∧ w'.cell? ⟨L, 4, none⟩ = some (.pointer none) ∧ w'.cell? ⟨L, 11, none⟩ = some (.map (some sm)) ∧ w'.cell? ⟨w.heap.size, 2, none⟩ = some (.int .u64 (nsOf e.at_)) ∧ w'.cell? ⟨w.heap.size, 3, none⟩ = some (.int .i64 (scOf e.at_)) ∧ w'.cell? ⟨w.heap.size, 4, none⟩ = some (.pointer none) ∧ w'.cell? ⟨w.heap.size, 5, none⟩ = some (.string e.team) ∧ w'.cell? ⟨w.heap.size, 6, none⟩ = some (.slice ta tl tc) ∧ w'.cell? ⟨w.heap.size, 7, none⟩ = some (.int .i64 e.task) ∧ w'.cell? ⟨w.heap.size, 8, none⟩ = some (.string e.comp) ∧ w'.cell? ⟨w.heap.size, 9, none⟩ = some (.bool false) ∧ w'.cell? ⟨w.heap.size + 1, 1, none⟩ = some (.int .i64 e.off) ∧ w'.cell? ⟨w.heap.size + 1, 2, none⟩ = some (.int .i64 e.size) ∧ (convert 30 9 (.slice ta tl tc)).run Tryf.prog w' = .ok (.string e.tid) w')) (by kernel_rfl) (HMK.out _ (Below.refl _ _).drew) (fun hHeld => ?_)
      refine wpAnyH_take (i := 0) (oi := ⟨some 7, Op.move (Operand.tmp 0), 59, _, _, none⟩) (v := ?v0b) rfl (by kernel_rfl) (by kernel_rfl) (by kernel_rfl) (fun _ _ _ h => h) (Or.inl ⟨by rfl, ?hy0b⟩) (by assumption) ?r0b
      case hy0b =>
        intro w hSw
        try dsimp only at hSw
        go_simp
        try with_reducible rfl
      simp only [Act.put, List.setIfInBounds_toArray, List.set_cons_zero, List.set_cons_succ]
      refine wpAnyH_take (i := 1) (oi := ⟨some 8, Op.move (Operand.tmp 0), 59, _, _, none⟩) (v := ?v1b) rfl (by kernel_rfl) (by kernel_rfl) (by kernel_rfl) (fun _ _ _ h => h) (Or.inl ⟨by rfl, ?hy1b⟩) (by assumption) ?r1b
      case hy1b =>
        intro w hSw
        try dsimp only at hSw
        go_simp
        try with_reducible rfl
      simp only [Act.put, List.setIfInBounds_toArray, List.set_cons_zero, List.set_cons_succ]
      refine wpAnyH_take (i := 2) (oi := ⟨some 9, Op.nilCheck (Operand.tmp 8), 0, _, _, none⟩) (v := ?v2b) rfl (by kernel_rfl) (by kernel_rfl) (by kernel_rfl) (fun _ _ _ h => h) (Or.inl ⟨by rfl, ?hy2b⟩) (by assumption) ?r2b
      case hy2b =>
        intro w hSw
        try dsimp only at hSw
        go_simp
        try with_reducible rfl
      simp only [Act.put, List.setIfInBounds_toArray, List.set_cons_zero, List.set_cons_succ]
      refine wpAnyH_take (i := 3) (oi := ⟨some 10, Op.fieldAddr 108 (Operand.tmp 9) 2, 0, _, _, none⟩) (v := ?v3b) rfl (by kernel_rfl) (by kernel_rfl) (by kernel_rfl) (fun _ _ _ h => h) (Or.inl ⟨by rfl, ?hy3b⟩) (by assumption) ?r3b
      case hy3b =>
        intro w hSw
        try dsimp only at hSw
        go_simp
        try with_reducible rfl
      simp only [Act.put, List.setIfInBounds_toArray, List.set_cons_zero, List.set_cons_succ]
      refine wpAnyH_take (i := 4) (oi := ⟨some 11, Op.fieldAddr 106 (Operand.tmp 10) 4, 0, _, _, none⟩) (v := ?v4b) rfl (by kernel_rfl) (by kernel_rfl) (by kernel_rfl) (fun _ _ _ h => h) (Or.inl ⟨by rfl, ?hy4b⟩) (by assumption) ?r4b
      case hy4b =>
        intro w hSw
        try dsimp only at hSw
        go_simp
        try with_reducible rfl
      simp only [Act.put, List.setIfInBounds_toArray, List.set_cons_zero, List.set_cons_succ]
      refine wpAnyH_take (i := 5) (oi := ⟨some 12, Op.load 102 (Operand.tmp 11), 102, _, _, none⟩) (v := ?v5b) rfl (by kernel_rfl) (by kernel_rfl) (by kernel_rfl) (fun _ _ _ h => h) (Or.inl ⟨by rfl, ?hy5b⟩) (by assumption) ?r5b
      case hy5b =>
        intro w hSw
        try dsimp only at hSw
        go_simp
        try with_reducible rfl
      simp only [Act.put, List.setIfInBounds_toArray, List.set_cons_zero, List.set_cons_succ]
      refine wpAnyH_take (i := 6) (oi := ⟨some 13, Op.call { callee := Callee.builtin Builtin.len, args := #[Operand.tmp 12], argTypes := #[102] }, 3, _, _, none⟩) (v := ?v6b) rfl (by kernel_rfl) (by kernel_rfl) (by kernel_rfl) (fun _ _ _ h => h) (Or.inl ⟨by rfl, ?hy6b⟩) (by assumption) ?r6b
      case hy6b =>
        intro w hSw
        try dsimp only at hSw
        go_simp
        try with_reducible rfl
      simp only [Act.put, List.setIfInBounds_toArray, List.set_cons_zero, List.set_cons_succ]
      refine wpAnyH_take (i := 7) (oi := ⟨some 14, Op.binOp BinOp.add 3 (Operand.tmp 13) (Operand.const (Value.int IntKind.i64 1)) 3, 3, _, _, none⟩) (v := ?v7b) rfl (by kernel_rfl) (by kernel_rfl) (by kernel_rfl) (fun _ _ _ h => h) (Or.inl ⟨by rfl, ?hy7b⟩) (by assumption) ?r7b
      case hy7b =>
        intro w hSw
        try dsimp only at hSw
        go_simp
        try with_reducible rfl
      simp only [Act.put, List.setIfInBounds_toArray, List.set_cons_zero, List.set_cons_succ]
      refine wpAnyH_take (i := 8) (oi := ⟨some 15, Op.fieldAddr 97 (Operand.tmp 4) 3, 0, _, _, none⟩) (v := ?v8b) rfl (by kernel_rfl) (by kernel_rfl) (by kernel_rfl) (fun _ _ _ h => h) (Or.inl ⟨by rfl, ?hy8b⟩) (by assumption) ?r8b
      case hy8b =>
        intro w hSw
        try dsimp only at hSw
        go_simp
        try with_reducible rfl
      simp only [Act.put, List.setIfInBounds_toArray, List.set_cons_zero, List.set_cons_succ]
      refine wpAnyH_take (i := 9) (oi := ⟨some 16, Op.load 9 (Operand.tmp 15), 9, _, _, none⟩) (v := ?v9b) rfl (by kernel_rfl) (by kernel_rfl) (by kernel_rfl) (fun _ _ _ h => h) (Or.inl ⟨by rfl, ?hy9b⟩) (by assumption) ?r9b
      case hy9b =>
        intro w hSw
        try dsimp only at hSw
        go_simp
        try with_reducible rfl
      simp only [Act.put, List.setIfInBounds_toArray, List.set_cons_zero, List.set_cons_succ]
      refine wpAnyH_take (i := 10) (oi := ⟨some 17, Op.fieldAddr 97 (Operand.tmp 4) 4, 0, _, _, none⟩) (v := ?v10b) rfl (by kernel_rfl) (by kernel_rfl) (by kernel_rfl) (fun _ _ _ h => h) (Or.inl ⟨by rfl, ?hy10b⟩) (by assumption) ?r10b
      case hy10b =>
        intro w hSw
        try dsimp only at hSw
        go_simp
        try with_reducible rfl
      simp only [Act.put, List.setIfInBounds_toArray, List.set_cons_zero, List.set_cons_succ]
      refine wpAnyH_take (i := 11) (oi := ⟨some 18, Op.load 30 (Operand.tmp 17), 30, _, _, none⟩) (v := ?v11b) rfl (by kernel_rfl) (by kernel_rfl) (by kernel_rfl) (fun _ _ _ h => h) (Or.inl ⟨by rfl, ?hy11b⟩) (by assumption) ?r11b
      case hy11b =>
        intro w hSw
        try dsimp only at hSw
        go_simp
        try with_reducible rfl
      simp only [Act.put, List.setIfInBounds_toArray, List.set_cons_zero, List.set_cons_succ]
      refine wpAnyH_take (i := 12) (oi := ⟨some 19, Op.convert 30 9 (Operand.tmp 18), 9, _, _, none⟩) (v := ?v12b) rfl (by kernel_rfl) (by kernel_rfl) (by kernel_rfl) (fun _ _ _ h => h) (Or.inl ⟨by rfl, ?hy12b⟩) (by assumption) ?r12b
      case hy12b =>
        intro w hSw
        try dsimp only at hSw
        go_simp
        try with_reducible rfl
      simp only [Act.put, List.setIfInBounds_toArray, List.set_cons_zero, List.set_cons_succ]
      refine wpAnyH_take (i := 13) (oi := ⟨some 20, Op.fieldAddr 97 (Operand.tmp 4) 5, 0, _, _, none⟩) (v := ?v13b) rfl (by kernel_rfl) (by kernel_rfl) (by kernel_rfl) (fun _ _ _ h => h) (Or.inl ⟨by rfl, ?hy13b⟩) (by assumption) ?r13b
      case hy13b =>
        intro w hSw
        try dsimp only at hSw
        go_simp
        try with_reducible rfl
      simp only [Act.put, List.setIfInBounds_toArray, List.set_cons_zero, List.set_cons_succ]
      refine wpAnyH_take (i := 14) (oi := ⟨some 21, Op.load 2 (Operand.tmp 20), 2, _, _, none⟩) (v := ?v14b) rfl (by kernel_rfl) (by kernel_rfl) (by kernel_rfl) (fun _ _ _ h => h) (Or.inl ⟨by rfl, ?hy14b⟩) (by assumption) ?r14b
      case hy14b =>
        intro w hSw
        try dsimp only at hSw
        go_simp
        try with_reducible rfl
      simp only [Act.put, List.setIfInBounds_toArray, List.set_cons_zero, List.set_cons_succ]
      refine wpAnyH_take (i := 15) (oi := ⟨some 22, Op.fieldAddr 97 (Operand.tmp 4) 6, 0, _, _, none⟩) (v := ?v15b) rfl (by kernel_rfl) (by kernel_rfl) (by kernel_rfl) (fun _ _ _ h => h) (Or.inl ⟨by rfl, ?hy15b⟩) (by assumption) ?r15b
      case hy15b =>
        intro w hSw
        try dsimp only at hSw
        go_simp
        try with_reducible rfl
      simp only [Act.put, List.setIfInBounds_toArray, List.set_cons_zero, List.set_cons_succ]
      refine wpAnyH_take (i := 16) (oi := ⟨some 23, Op.load 9 (Operand.tmp 22), 9, _, _, none⟩) (v := ?v16b) rfl (by kernel_rfl) (by kernel_rfl) (by kernel_rfl) (fun _ _ _ h => h) (Or.inl ⟨by rfl, ?hy16b⟩) (by assumption) ?r16b
      case hy16b =>
        intro w hSw
        try dsimp only at hSw
        go_simp
        try with_reducible rfl
      simp only [Act.put, List.setIfInBounds_toArray, List.set_cons_zero, List.set_cons_succ]
      refine wpAnyH_take (i := 17) (oi := ⟨some 24, Op.fieldAddr 100 (Operand.tmp 5) 1, 0, _, _, none⟩) (v := ?v17b) rfl (by kernel_rfl) (by kernel_rfl) (by kernel_rfl) (fun _ _ _ h => h) (Or.inl ⟨by rfl, ?hy17b⟩) (by assumption) ?r17b
      case hy17b =>
        intro w hSw
        try dsimp only at hSw
        go_simp
        try with_reducible rfl
      simp only [Act.put, List.setIfInBounds_toArray, List.set_cons_zero, List.set_cons_succ]
      refine wpAnyH_take (i := 18) (oi := ⟨some 25, Op.load 2 (Operand.tmp 24), 2, _, _, none⟩) (v := ?v18b) rfl (by kernel_rfl) (by kernel_rfl) (by kernel_rfl) (fun _ _ _ h => h) (Or.inl ⟨by rfl, ?hy18b⟩) (by assumption) ?r18b
      case hy18b =>
        intro w hSw
        try dsimp only at hSw
        go_simp
        try with_reducible rfl
      simp only [Act.put, List.setIfInBounds_toArray, List.set_cons_zero, List.set_cons_succ]
      refine wpAnyH_take (i := 19) (oi := ⟨some 26, Op.fieldAddr 100 (Operand.tmp 5) 2, 0, _, _, none⟩) (v := ?v19b) rfl (by kernel_rfl) (by kernel_rfl) (by kernel_rfl) (fun _ _ _ h => h) (Or.inl ⟨by rfl, ?hy19b⟩) (by assumption) ?r19b
      case hy19b =>
        intro w hSw
        try dsimp only at hSw
        go_simp
        try with_reducible rfl
      simp only [Act.put, List.setIfInBounds_toArray, List.set_cons_zero, List.set_cons_succ]
      refine wpAnyH_take (i := 20) (oi := ⟨some 27, Op.load 2 (Operand.tmp 26), 2, _, _, none⟩) (v := ?v20b) rfl (by kernel_rfl) (by kernel_rfl) (by kernel_rfl) (fun _ _ _ h => h) (Or.inl ⟨by rfl, ?hy20b⟩) (by assumption) ?r20b
      case hy20b =>
        intro w hSw
        try dsimp only at hSw
        go_simp
        try with_reducible rfl
      simp only [Act.put, List.setIfInBounds_toArray, List.set_cons_zero, List.set_cons_succ]
      refine wpAnyH_take (i := 21) (oi := ⟨some 28, Op.fieldAddr 97 (Operand.tmp 4) 2, 0, _, _, none⟩) (v := ?v21b) rfl (by kernel_rfl) (by kernel_rfl) (by kernel_rfl) (fun _ _ _ h => h) (Or.inl ⟨by rfl, ?hy21b⟩) (by assumption) ?r21b
      case hy21b =>
        intro w hSw
        try dsimp only at hSw
        go_simp
        try with_reducible rfl
      simp only [Act.put, List.setIfInBounds_toArray, List.set_cons_zero, List.set_cons_succ]
      refine wpAnyH_take (i := 22) (oi := ⟨some 29, Op.load 93 (Operand.tmp 28), 93, _, _, none⟩) (v := ?v22b) rfl (by kernel_rfl) (by kernel_rfl) (by kernel_rfl) (fun _ _ _ h => h) (Or.inl ⟨by rfl, ?hy22b⟩) (by assumption) ?r22b
      case hy22b =>
        intro w hSw
        try dsimp only at hSw
        go_simp
        try with_reducible rfl
      simp only [Act.put, List.setIfInBounds_toArray, List.set_cons_zero, List.set_cons_succ]
      refine wpAnyH_take (i := 23) (oi := ⟨some 30, Op.move (Operand.tmp 0), 59, _, _, none⟩) (v := ?v23b) rfl (by kernel_rfl) (by kernel_rfl) (by kernel_rfl) (fun _ _ _ h => h) (Or.inl ⟨by rfl, ?hy23b⟩) (by assumption) ?r23b
      case hy23b =>
        intro w hSw
        try dsimp only at hSw
        go_simp
        try with_reducible rfl
      simp only [Act.put, List.setIfInBounds_toArray, List.set_cons_zero, List.set_cons_succ]
      refine wpAnyH_take (i := 24) (oi := ⟨some 31, Op.nilCheck (Operand.tmp 30), 0, _, _, none⟩) (v := ?v24b) rfl (by kernel_rfl) (by kernel_rfl) (by kernel_rfl) (fun _ _ _ h => h) (Or.inl ⟨by rfl, ?hy24b⟩) (by assumption) ?r24b
      case hy24b =>
        intro w hSw
        try dsimp only at hSw
        go_simp
        try with_reducible rfl
      simp only [Act.put, List.setIfInBounds_toArray, List.set_cons_zero, List.set_cons_succ]
      refine wpAnyH_take (i := 25) (oi := ⟨some 32, Op.fieldAddr 108 (Operand.tmp 31) 2, 0, _, _, none⟩) (v := ?v25b) rfl (by kernel_rfl) (by kernel_rfl) (by kernel_rfl) (fun _ _ _ h => h) (Or.inl ⟨by rfl, ?hy25b⟩) (by assumption) ?r25b
      case hy25b =>
        intro w hSw
        try dsimp only at hSw
        go_simp
        try with_reducible rfl
      simp only [Act.put, List.setIfInBounds_toArray, List.set_cons_zero, List.set_cons_succ]
      refine wpAnyH_take (i := 26) (oi := ⟨some 33, Op.fieldAddr 106 (Operand.tmp 32) 0, 0, _, _, none⟩) (v := ?v26b) rfl (by kernel_rfl) (by kernel_rfl) (by kernel_rfl) (fun _ _ _ h => h) (Or.inl ⟨by rfl, ?hy26b⟩) (by assumption) ?r26b
      case hy26b =>
        intro w hSw
        try dsimp only at hSw
        go_simp
        try with_reducible rfl
      simp only [Act.put, List.setIfInBounds_toArray, List.set_cons_zero, List.set_cons_succ]
      refine wpAnyH_take (i := 27) (oi := ⟨some 34, Op.load 93 (Operand.tmp 33), 93, _, _, none⟩) (v := ?v27b) rfl (by kernel_rfl) (by kernel_rfl) (by kernel_rfl) (fun _ _ _ h => h) (Or.inl ⟨by rfl, ?hy27b⟩) (by assumption) ?r27b
      case hy27b =>
        intro w hSw
        try dsimp only at hSw
        go_simp
        try with_reducible rfl
      simp only [Act.put, List.setIfInBounds_toArray, List.set_cons_zero, List.set_cons_succ]
      refine wpAnyH_take (i := 31) (oi := ⟨some 38, Op.fieldAddr 97 (Operand.tmp 4) 7, 0, _, _, none⟩) (v := ?v31b) rfl (by kernel_rfl) (by kernel_rfl) (by kernel_rfl) (fun _ _ _ h => h) (Or.inl ⟨by rfl, ?hy31b⟩) (by assumption) ?r31b
      case hy31b =>
        intro w hSw
        try dsimp only at hSw
        go_simp
        try with_reducible rfl
      simp only [Act.put, List.setIfInBounds_toArray, List.set_cons_zero, List.set_cons_succ]
      refine wpAnyH_take (i := 32) (oi := ⟨some 39, Op.load 4 (Operand.tmp 38), 4, _, _, none⟩) (v := ?v32b) rfl (by kernel_rfl) (by kernel_rfl) (by kernel_rfl) (fun _ _ _ h => h) (Or.inl ⟨by rfl, ?hy32b⟩) (by assumption) ?r32b
      case hy32b =>
        intro w hSw
        try dsimp only at hSw
        go_simp
        try with_reducible rfl
      simp only [Act.put, List.setIfInBounds_toArray, List.set_cons_zero, List.set_cons_succ]
      refine wpAnyH_take (i := 33) (oi := ⟨some 40, Op.unOp UnOp.not 4 (Operand.tmp 39), 4, _, _, none⟩) (v := ?v33b) rfl (by kernel_rfl) (by kernel_rfl) (by kernel_rfl) (fun _ _ _ h => h) (Or.inl ⟨by rfl, ?hy33b⟩) (by assumption) ?r33b
      case hy33b =>
        intro w hSw
        try dsimp only at hSw
        go_simp
        try with_reducible rfl
      simp only [Act.put, List.setIfInBounds_toArray, List.set_cons_zero, List.set_cons_succ]
      refine wpAnyH_ready (rs := [28]) (by kernel_rfl) (by simp) ?_
      refine AllReadyH.cons rfl (fun K hK => ?_) AllReadyH.nil
      go_simp
      refine (sub_any _ _ _ _ _ (nsOf_pos _) (nsOf_lt _) (nsOf_pos _) (nsOf_lt _) a0 a1 s0 s1).mono ?_
      rintro e1 w1 ⟨d, rfl, hd, hb1⟩
      have hdr : d = clamp (e.at_ - m.st) := by rw [hd, ns_sc, ns_sc]
      have HDR : Hid (d = clamp (e.at_ - m.st)) := hdr
      obtain ⟨d0, d1⟩ : -9223372036854775808 ≤ d ∧ d ≤ 9223372036854775807 := by rw [hdr]; exact clamp_I64 _
      obtain ⟨t0, t1⟩ := tdiv_I64 d0 d1
      have hwd : IntKind.i64.wrap (d.tdiv 60000000000) = d.tdiv 60000000000 := by rw [IntKind.wrap_i64]; omega
      have hmin := mins_walk HDR.out
      have HMIN : Hid _ := hmin
      clear hd hdr t0 t1 hmin
      show K _ _
      refine hK.out _ _ (HMK.out _ ((Below.refl _ _).drew.trans hb1)) (fun hHeld2 => ?_)
      clear hK K hHeld
      try simp only [Act.put, List.setIfInBounds_toArray, List.set_cons_zero, List.set_cons_succ]
      refine wpAnyH_take (i := 29) (oi := ⟨some 36, Op.binOp BinOp.quo 47 (Operand.tmp 35) (Operand.const (Value.int IntKind.i64 60000000000)) 47, 47, _, _, none⟩) (v := ?v29b) rfl (by kernel_rfl) (by kernel_rfl) (by kernel_rfl) (fun _ _ _ h => h) (Or.inl ⟨by rfl, ?hy29b⟩) (by assumption) ?r29b
      case hy29b =>
        intro w hSw
        try dsimp only at hSw
        go_simp
        try with_reducible rfl
      simp only [Act.put, List.setIfInBounds_toArray, List.set_cons_zero, List.set_cons_succ]
      refine wpAnyH_take (i := 30) (oi := ⟨some 37, Op.call { callee := Callee.builtin Builtin.max, args := #[Operand.const (Value.int IntKind.i64 0), Operand.tmp 36], argTypes := #[2, 2] }, 2, _, _, none⟩) (v := ?v30b) rfl (by kernel_rfl) (by kernel_rfl) (by kernel_rfl) (fun _ _ _ h => h) (Or.inl ⟨by rfl, ?hy30b⟩) (by assumption) ?r30b
      case hy30b =>
        intro w hSw
        try dsimp only at hSw
        go_simp
        try with_reducible rfl
      simp only [Act.put, List.setIfInBounds_toArray, List.set_cons_zero, List.set_cons_succ]
      refine wpAnyH_take (i := 34) (oi := ⟨some 41, Op.move (Operand.tmp 40), 4, _, _, none⟩) (v := ?v34b) rfl (by kernel_rfl) (by kernel_rfl) (by kernel_rfl) (fun _ _ _ h => h) (Or.inl ⟨by rfl, ?hy34b⟩) (by assumption) ?r34b
      case hy34b =>
        intro w hSw
        try dsimp only at hSw
        go_simp
        try with_reducible rfl
      simp only [Act.put, List.setIfInBounds_toArray, List.set_cons_zero, List.set_cons_succ]
      refine wpAnyH_take (i := 35) (oi := ⟨some 42, Op.move (Operand.tmp 0), 59, _, _, some (34, false)⟩) (v := undef) rfl (by kernel_rfl) (by kernel_rfl) (by kernel_rfl) (fun _ _ _ h => h) (Or.inr ⟨by rfl, rfl⟩) (by assumption) ?r35b
      simp only [Act.put, List.setIfInBounds_toArray, List.set_cons_zero, List.set_cons_succ]
      refine wpAnyH_take (i := 36) (oi := ⟨some 43, Op.nilCheck (Operand.tmp 42), 0, _, _, some (34, false)⟩) (v := undef) rfl (by kernel_rfl) (by kernel_rfl) (by kernel_rfl) (fun _ _ _ h => h) (Or.inr ⟨by rfl, rfl⟩) (by assumption) ?r36b
      simp only [Act.put, List.setIfInBounds_toArray, List.set_cons_zero, List.set_cons_succ]
      refine wpAnyH_take (i := 37) (oi := ⟨some 44, Op.fieldAddr 108 (Operand.tmp 43) 2, 0, _, _, some (34, false)⟩) (v := undef) rfl (by kernel_rfl) (by kernel_rfl) (by kernel_rfl) (fun _ _ _ h => h) (Or.inr ⟨by rfl, rfl⟩) (by assumption) ?r37b
      simp only [Act.put, List.setIfInBounds_toArray, List.set_cons_zero, List.set_cons_succ]
      refine wpAnyH_take (i := 38) (oi := ⟨some 45, Op.fieldAddr 106 (Operand.tmp 44) 5, 0, _, _, some (34, false)⟩) (v := undef) rfl (by kernel_rfl) (by kernel_rfl) (by kernel_rfl) (fun _ _ _ h => h) (Or.inr ⟨by rfl, rfl⟩) (by assumption) ?r38b
      simp only [Act.put, List.setIfInBounds_toArray, List.set_cons_zero, List.set_cons_succ]
      refine wpAnyH_take (i := 39) (oi := ⟨some 46, Op.load 103 (Operand.tmp 45), 103, _, _, some (34, false)⟩) (v := undef) rfl (by kernel_rfl) (by kernel_rfl) (by kernel_rfl) (fun _ _ _ h => h) (Or.inr ⟨by rfl, rfl⟩) (by assumption) ?r39b
      simp only [Act.put, List.setIfInBounds_toArray, List.set_cons_zero, List.set_cons_succ]
      refine wpAnyH_take (i := 40) (oi := ⟨some 47, Op.fieldAddr 97 (Operand.tmp 4) 3, 0, _, _, some (34, false)⟩) (v := undef) rfl (by kernel_rfl) (by kernel_rfl) (by kernel_rfl) (fun _ _ _ h => h) (Or.inr ⟨by rfl, rfl⟩) (by assumption) ?r40b
      simp only [Act.put, List.setIfInBounds_toArray, List.set_cons_zero, List.set_cons_succ]
      refine wpAnyH_take (i := 41) (oi := ⟨some 48, Op.load 9 (Operand.tmp 47), 9, _, _, some (34, false)⟩) (v := undef) rfl (by kernel_rfl) (by kernel_rfl) (by kernel_rfl) (fun _ _ _ h => h) (Or.inr ⟨by rfl, rfl⟩) (by assumption) ?r41b
      simp only [Act.put, List.setIfInBounds_toArray, List.set_cons_zero, List.set_cons_succ]
      refine wpAnyH_take (i := 42) (oi := ⟨some 49, Op.fieldAddr 97 (Operand.tmp 4) 5, 0, _, _, some (34, false)⟩) (v := undef) rfl (by kernel_rfl) (by kernel_rfl) (by kernel_rfl) (fun _ _ _ h => h) (Or.inr ⟨by rfl, rfl⟩) (by assumption) ?r42b
      simp only [Act.put, List.setIfInBounds_toArray, List.set_cons_zero, List.set_cons_succ]
      refine wpAnyH_take (i := 43) (oi := ⟨some 50, Op.load 2 (Operand.tmp 49), 2, _, _, some (34, false)⟩) (v := undef) rfl (by kernel_rfl) (by kernel_rfl) (by kernel_rfl) (fun _ _ _ h => h) (Or.inr ⟨by rfl, rfl⟩) (by assumption) ?r43b
      simp only [Act.put, List.setIfInBounds_toArray, List.set_cons_zero, List.set_cons_succ]
      refine wpAnyH_take (i := 44) (oi := ⟨some 51, Op.build 116 #[(0, Operand.tmp 48), (1, Operand.tmp 50)], 116, _, _, some (34, false)⟩) (v := undef) rfl (by kernel_rfl) (by kernel_rfl) (by kernel_rfl) (fun _ _ _ h => h) (Or.inr ⟨by rfl, rfl⟩) (by assumption) ?r44b
      simp only [Act.put, List.setIfInBounds_toArray, List.set_cons_zero, List.set_cons_succ]
      refine wpAnyH_take (i := 45) (oi := ⟨some 52, Op.lookup 103 (Operand.tmp 46) (Operand.tmp 51) false, 4, _, _, some (34, false)⟩) (v := undef) rfl (by kernel_rfl) (by kernel_rfl) (by kernel_rfl) (fun _ _ _ h => h) (Or.inr ⟨by rfl, rfl⟩) (by assumption) ?r45b
      simp only [Act.put, List.setIfInBounds_toArray, List.set_cons_zero, List.set_cons_succ]
      refine wpAnyH_take (i := 46) (oi := ⟨some 53, Op.unOp UnOp.not 4 (Operand.tmp 52), 4, _, _, some (34, false)⟩) (v := undef) rfl (by kernel_rfl) (by kernel_rfl) (by kernel_rfl) (fun _ _ _ h => h) (Or.inr ⟨by rfl, rfl⟩) (by assumption) ?r46b
      simp only [Act.put, List.setIfInBounds_toArray, List.set_cons_zero, List.set_cons_succ]
      refine wpAnyH_take (i := 47) (oi := ⟨some 54, Op.pick (Operand.tmp 41) (Operand.const (Value.bool true)) (Operand.tmp 53), 4, _, _, none⟩) (v := ?v47b) rfl (by kernel_rfl) (by kernel_rfl) (by kernel_rfl) (fun _ _ _ h => h) (Or.inl ⟨by rfl, ?hy47b⟩) (by assumption) ?r47b
      case hy47b =>
        intro w hSw
        try dsimp only at hSw
        go_simp
        try with_reducible rfl
      simp only [Act.put, List.setIfInBounds_toArray, List.set_cons_zero, List.set_cons_succ]
      refine wpAnyH_take (i := 48) (oi := ⟨some 55, Op.build 112 #[(0, Operand.tmp 7), (1, Operand.tmp 14), (2, Operand.tmp 16), (3, Operand.tmp 19), (4, Operand.tmp 21), (5, Operand.tmp 23), (6, Operand.tmp 25), (7, Operand.tmp 27), (8, Operand.tmp 37), (9, Operand.tmp 54)], 112, _, _, none⟩) (v := ?v48b) rfl (by kernel_rfl) (by kernel_rfl) (by kernel_rfl) (fun _ _ _ h => h) (Or.inl ⟨by rfl, ?hy48b⟩) (by assumption) ?r48b
      case hy48b =>
        intro w hSw
        try dsimp only at hSw
        go_simp
        try with_reducible rfl
      simp only [Act.put, List.setIfInBounds_toArray, List.set_cons_zero, List.set_cons_succ]
      refine wpAnyH_ready (rs := [49]) (by kernel_rfl) (by simp) ?_
      refine AllReadyH.cons rfl (fun K hK => ?_) AllReadyH.nil
      go_simp
      refine hK.out _ _ (HMK.out _ (((Below.refl _ _).drew.trans hb1).alloc hb1.size _)) (fun hHeld3 => ?_)
      clear hK K hHeld2
      try simp only [Act.put, List.setIfInBounds_toArray, List.set_cons_zero, List.set_cons_succ]
      refine wpAnyH_take (i := 50) (oi := ⟨some 6, Op.assign (Operand.tmp 56), 110, _, _, none⟩) (v := ?v50b) rfl (by kernel_rfl) (by kernel_rfl) (by kernel_rfl) (fun _ _ _ h => h) (Or.inl ⟨by rfl, ?hy50b⟩) (by assumption) ?r50b
      case hy50b =>
        intro w hSw
        try dsimp only at hSw
        go_simp
        try with_reducible rfl
      simp only [Act.put, List.setIfInBounds_toArray, List.set_cons_zero, List.set_cons_succ]
      refine wpAnyH_done (by kernel_rfl) ?_ _
      refine NoPanic.normal ?_
      go_wp2_with fail
      all_goals go_meet
      all_goals (
        have hbs := hb1.size
        have h2 : W.drew.heap.size = W.heap.size := rfl
        refine ⟨_, rfl, by omega, ?_, ((Below.refl _ _).drew.trans hb1).alloc hb1.size _⟩
        rw [HNS.out]
        unfold subC
        dsimp only
        rw [← HMIN.out]
        first
          | (rw [show max 0 (d.tdiv 60000000000) = 0 by omega]; exact Blk.new _ _ _)
          | (rw [show max 0 (d.tdiv 60000000000) = d.tdiv 60000000000 by omega]; exact Blk.new _ _ _))
    case true =>
      have HMK : Hid (∀ w', Below W.heap.size W w' → w'.cell? ⟨L, 10, none⟩ = some (.slice sa n cs) ∧ w'.cell? ⟨L, 2, none⟩ = some (.int .u64 (nsOf m.st)) ∧ w'.cell? ⟨L, 3, none⟩ = some (.int .i64 (scOf m.st)) ∧ w'.cell? ⟨L, 4, none⟩ = some (.pointer none) ∧ w'.cell? ⟨L, 11, none⟩ = some (.map (some sm)) ∧ w'.cell? ⟨w.heap.size, 2, none⟩ = some (.int .u64 (nsOf e.at_)) ∧ w'.cell? ⟨w.heap.size, 3, none⟩ = some (.int .i64 (scOf e.at_)) ∧ w'.cell? ⟨w.heap.size, 4, none⟩ = some (.pointer none) ∧ w'.cell? ⟨w.heap.size, 5, none⟩ = some (.string e.team) ∧ w'.cell? ⟨w.heap.size, 6, none⟩ = some (.slice ta tl tc) ∧ w'.cell? ⟨w.heap.size, 7, none⟩ = some (.int .i64 e.task) ∧ w'.cell? ⟨w.heap.size, 8, none⟩ = some (.string e.comp) ∧ w'.cell? ⟨w.heap.size, 9, none⟩ = some (.bool true) ∧ w'.cell? ⟨w.heap.size + 1, 1, none⟩ = some (.int .i64 e.off) ∧ w'.cell? ⟨w.heap.size + 1, 2, none⟩ = some (.int .i64 e.size) ∧ (convert 30 9 (.slice ta tl tc)).run Tryf.prog w' = .ok (.string e.tid) w' ∧ (Instr.lookup 103 (.map (some sm)) (.agg #[.string e.team, .int .i64 e.task]) false).run Tryf.prog w' = .ok (.bool sb) w') := by
        intro w' hb
        exact ⟨(hb.cell (p := ⟨L, 10, none⟩) (by show L < _; omega)).trans l10, (hb.cell (p := ⟨L, 2, none⟩) (by show L < _; omega)).trans l2, (hb.cell (p := ⟨L, 3, none⟩) (by show L < _; omega)).trans l3, (hb.cell (p := ⟨L, 4, none⟩) (by show L < _; omega)).trans l4, (hb.cell (p := ⟨L, 11, none⟩) (by show L < _; omega)).trans l11, (hb.cell (p := ⟨w.heap.size, 2, none⟩) (by show w.heap.size < _; omega)).trans e2, (hb.cell (p := ⟨w.heap.size, 3, none⟩) (by show w.heap.size < _; omega)).trans e3, (hb.cell (p := ⟨w.heap.size, 4, none⟩) (by show w.heap.size < _; omega)).trans e4, (hb.cell (p := ⟨w.heap.size, 5, none⟩) (by show w.heap.size < _; omega)).trans e5, (hb.cell (p := ⟨w.heap.size, 6, none⟩) (by show w.heap.size < _; omega)).trans e6, (hb.cell (p := ⟨w.heap.size, 7, none⟩) (by show w.heap.size < _; omega)).trans e7, (hb.cell (p := ⟨w.heap.size, 8, none⟩) (by show w.heap.size < _; omega)).trans e8, (hb.cell (p := ⟨w.heap.size, 9, none⟩) (by show w.heap.size < _; omega)).trans e9, (hb.cell (p := ⟨w.heap.size + 1, 1, none⟩) (by show w.heap.size + 1 < _; omega)).trans r1, (hb.cell (p := ⟨w.heap.size + 1, 2, none⟩) (by show w.heap.size + 1 < _; omega)).trans r2, (IsBytes.below HBY.out hb (Nat.le_refl _)).conv, HLK.out w' hb⟩
      refine wp_region_noPanic ?_
      refine wp_region_held_drew (S := (fun w' => w'.cell? ⟨L, 10, none⟩ = some (.slice sa n cs) ∧ w'.cell? ⟨L, 2, none⟩ = some (.int .u64 (nsOf m.st)) ∧ w'.cell? ⟨L, 3, none⟩ = some (.int .i64 (scOf m.st)) ∧ w'.cell? ⟨L, 4, none⟩ = some (.pointer none) ∧ w'.cell? ⟨L, 11, none⟩ = some (.map (some sm)) ∧ w'.cell? ⟨w.heap.size, 2, none⟩ = some (.int .u64 (nsOf e.at_)) ∧ w'.cell? ⟨w.heap.size, 3, none⟩ = some (.int .i64 (scOf e.at_)) ∧ w'.cell? ⟨w.heap.size, 4, none⟩ = some (.pointer none) ∧ w'.cell? ⟨w.heap.size, 5, none⟩ = some (.string e.team) ∧ w'.cell? ⟨w.heap.size, 6, none⟩ = some (.slice ta tl tc) ∧ w'.cell? ⟨w.heap.size, 7, none⟩ = some (.int .i64 e.task) ∧ w'.cell? ⟨w.heap.size, 8, none⟩ = some (.string e.comp) ∧ w'.cell? ⟨w.heap.size, 9, none⟩ = some (.bool true) ∧ w'.cell? ⟨w.heap.size + 1, 1, none⟩ = some (.int .i64 e.off) ∧ w'.cell? ⟨w.heap.size + 1, 2, none⟩ = some (.int .i64 e.size) ∧ (convert 30 9 (.slice ta tl tc)).run Tryf.prog w' = .ok (.string e.tid) w' ∧ (Instr.lookup 103 (.map (some sm)) (.agg #[.string e.team, .int .i64 e.task]) false).run Tryf.prog w' = .ok (.bool sb) w')) (by kernel_rfl) (HMK.out _ (Below.refl _ _).drew) (fun hHeld => ?_)
      refine wpAnyH_take (i := 0) (oi := ⟨some 7, Op.move (Operand.tmp 0), 59, _, _, none⟩) (v := ?v0a) rfl (by kernel_rfl) (by kernel_rfl) (by kernel_rfl) (fun _ _ _ h => h) (Or.inl ⟨by rfl, ?hy0a⟩) (by assumption) ?r0a
      case hy0a =>
        intro w hSw
        try dsimp only at hSw
        go_simp
        try with_reducible rfl
      simp only [Act.put, List.setIfInBounds_toArray, List.set_cons_zero, List.set_cons_succ]
      refine wpAnyH_take (i := 1) (oi := ⟨some 8, Op.move (Operand.tmp 0), 59, _, _, none⟩) (v := ?v1a) rfl (by kernel_rfl) (by kernel_rfl) (by kernel_rfl) (fun _ _ _ h => h) (Or.inl ⟨by rfl, ?hy1a⟩) (by assumption) ?r1a
      case hy1a =>
        intro w hSw
        try dsimp only at hSw
        go_simp
        try with_reducible rfl
      simp only [Act.put, List.setIfInBounds_toArray, List.set_cons_zero, List.set_cons_succ]
      refine wpAnyH_take (i := 2) (oi := ⟨some 9, Op.nilCheck (Operand.tmp 8), 0, _, _, none⟩) (v := ?v2a) rfl (by kernel_rfl) (by kernel_rfl) (by kernel_rfl) (fun _ _ _ h => h) (Or.inl ⟨by rfl, ?hy2a⟩) (by assumption) ?r2a
      case hy2a =>
        intro w hSw
        try dsimp only at hSw
        go_simp
        try with_reducible rfl
      simp only [Act.put, List.setIfInBounds_toArray, List.set_cons_zero, List.set_cons_succ]
      refine wpAnyH_take (i := 3) (oi := ⟨some 10, Op.fieldAddr 108 (Operand.tmp 9) 2, 0, _, _, none⟩) (v := ?v3a) rfl (by kernel_rfl) (by kernel_rfl) (by kernel_rfl) (fun _ _ _ h => h) (Or.inl ⟨by rfl, ?hy3a⟩) (by assumption) ?r3a
      case hy3a =>
        intro w hSw
        try dsimp only at hSw
        go_simp
        try with_reducible rfl
      simp only [Act.put, List.setIfInBounds_toArray, List.set_cons_zero, List.set_cons_succ]
      refine wpAnyH_take (i := 4) (oi := ⟨some 11, Op.fieldAddr 106 (Operand.tmp 10) 4, 0, _, _, none⟩) (v := ?v4a) rfl (by kernel_rfl) (by kernel_rfl) (by kernel_rfl) (fun _ _ _ h => h) (Or.inl ⟨by rfl, ?hy4a⟩) (by assumption) ?r4a
      case hy4a =>
        intro w hSw
        try dsimp only at hSw
        go_simp
        try with_reducible rfl
      simp only [Act.put, List.setIfInBounds_toArray, List.set_cons_zero, List.set_cons_succ]
      refine wpAnyH_take (i := 5) (oi := ⟨some 12, Op.load 102 (Operand.tmp 11), 102, _, _, none⟩) (v := ?v5a) rfl (by kernel_rfl) (by kernel_rfl) (by kernel_rfl) (fun _ _ _ h => h) (Or.inl ⟨by rfl, ?hy5a⟩) (by assumption) ?r5a
      case hy5a =>
        intro w hSw
        try dsimp only at hSw
        go_simp
        try with_reducible rfl
      simp only [Act.put, List.setIfInBounds_toArray, List.set_cons_zero, List.set_cons_succ]
      refine wpAnyH_take (i := 6) (oi := ⟨some 13, Op.call { callee := Callee.builtin Builtin.len, args := #[Operand.tmp 12], argTypes := #[102] }, 3, _, _, none⟩) (v := ?v6a) rfl (by kernel_rfl) (by kernel_rfl) (by kernel_rfl) (fun _ _ _ h => h) (Or.inl ⟨by rfl, ?hy6a⟩) (by assumption) ?r6a
      case hy6a =>
        intro w hSw
        try dsimp only at hSw
        go_simp
        try with_reducible rfl
      simp only [Act.put, List.setIfInBounds_toArray, List.set_cons_zero, List.set_cons_succ]
      refine wpAnyH_take (i := 7) (oi := ⟨some 14, Op.binOp BinOp.add 3 (Operand.tmp 13) (Operand.const (Value.int IntKind.i64 1)) 3, 3, _, _, none⟩) (v := ?v7a) rfl (by kernel_rfl) (by kernel_rfl) (by kernel_rfl) (fun _ _ _ h => h) (Or.inl ⟨by rfl, ?hy7a⟩) (by assumption) ?r7a
      case hy7a =>
        intro w hSw
        try dsimp only at hSw
        go_simp
        try with_reducible rfl
      simp only [Act.put, List.setIfInBounds_toArray, List.set_cons_zero, List.set_cons_succ]
      refine wpAnyH_take (i := 8) (oi := ⟨some 15, Op.fieldAddr 97 (Operand.tmp 4) 3, 0, _, _, none⟩) (v := ?v8a) rfl (by kernel_rfl) (by kernel_rfl) (by kernel_rfl) (fun _ _ _ h => h) (Or.inl ⟨by rfl, ?hy8a⟩) (by assumption) ?r8a
      case hy8a =>
        intro w hSw
        try dsimp only at hSw
        go_simp
        try with_reducible rfl
      simp only [Act.put, List.setIfInBounds_toArray, List.set_cons_zero, List.set_cons_succ]
      refine wpAnyH_take (i := 9) (oi := ⟨some 16, Op.load 9 (Operand.tmp 15), 9, _, _, none⟩) (v := ?v9a) rfl (by kernel_rfl) (by kernel_rfl) (by kernel_rfl) (fun _ _ _ h => h) (Or.inl ⟨by rfl, ?hy9a⟩) (by assumption) ?r9a
      case hy9a =>
        intro w hSw
        try dsimp only at hSw
        go_simp
        try with_reducible rfl
      simp only [Act.put, List.setIfInBounds_toArray, List.set_cons_zero, List.set_cons_succ]
      refine wpAnyH_take (i := 10) (oi := ⟨some 17, Op.fieldAddr 97 (Operand.tmp 4) 4, 0, _, _, none⟩) (v := ?v10a) rfl (by kernel_rfl) (by kernel_rfl) (by kernel_rfl) (fun _ _ _ h => h) (Or.inl ⟨by rfl, ?hy10a⟩) (by assumption) ?r10a
      case hy10a =>
        intro w hSw
        try dsimp only at hSw
        go_simp
        try with_reducible rfl
      simp only [Act.put, List.setIfInBounds_toArray, List.set_cons_zero, List.set_cons_succ]
      refine wpAnyH_take (i := 11) (oi := ⟨some 18, Op.load 30 (Operand.tmp 17), 30, _, _, none⟩) (v := ?v11a) rfl (by kernel_rfl) (by kernel_rfl) (by kernel_rfl) (fun _ _ _ h => h) (Or.inl ⟨by rfl, ?hy11a⟩) (by assumption) ?r11a
      case hy11a =>
        intro w hSw
        try dsimp only at hSw
        go_simp
        try with_reducible rfl
      simp only [Act.put, List.setIfInBounds_toArray, List.set_cons_zero, List.set_cons_succ]
      refine wpAnyH_take (i := 12) (oi := ⟨some 19, Op.convert 30 9 (Operand.tmp 18), 9, _, _, none⟩) (v := ?v12a) rfl (by kernel_rfl) (by kernel_rfl) (by kernel_rfl) (fun _ _ _ h => h) (Or.inl ⟨by rfl, ?hy12a⟩) (by assumption) ?r12a
      case hy12a =>
        intro w hSw
        try dsimp only at hSw
        go_simp
        try with_reducible rfl
      simp only [Act.put, List.setIfInBounds_toArray, List.set_cons_zero, List.set_cons_succ]
      refine wpAnyH_take (i := 13) (oi := ⟨some 20, Op.fieldAddr 97 (Operand.tmp 4) 5, 0, _, _, none⟩) (v := ?v13a) rfl (by kernel_rfl) (by kernel_rfl) (by kernel_rfl) (fun _ _ _ h => h) (Or.inl ⟨by rfl, ?hy13a⟩) (by assumption) ?r13a
      case hy13a =>
        intro w hSw
        try dsimp only at hSw
        go_simp
        try with_reducible rfl
      simp only [Act.put, List.setIfInBounds_toArray, List.set_cons_zero, List.set_cons_succ]
      refine wpAnyH_take (i := 14) (oi := ⟨some 21, Op.load 2 (Operand.tmp 20), 2, _, _, none⟩) (v := ?v14a) rfl (by kernel_rfl) (by kernel_rfl) (by kernel_rfl) (fun _ _ _ h => h) (Or.inl ⟨by rfl, ?hy14a⟩) (by assumption) ?r14a
      case hy14a =>
        intro w hSw
        try dsimp only at hSw
        go_simp
        try with_reducible rfl
      simp only [Act.put, List.setIfInBounds_toArray, List.set_cons_zero, List.set_cons_succ]
      refine wpAnyH_take (i := 15) (oi := ⟨some 22, Op.fieldAddr 97 (Operand.tmp 4) 6, 0, _, _, none⟩) (v := ?v15a) rfl (by kernel_rfl) (by kernel_rfl) (by kernel_rfl) (fun _ _ _ h => h) (Or.inl ⟨by rfl, ?hy15a⟩) (by assumption) ?r15a
      case hy15a =>
        intro w hSw
        try dsimp only at hSw
        go_simp
        try with_reducible rfl
      simp only [Act.put, List.setIfInBounds_toArray, List.set_cons_zero, List.set_cons_succ]
      refine wpAnyH_take (i := 16) (oi := ⟨some 23, Op.load 9 (Operand.tmp 22), 9, _, _, none⟩) (v := ?v16a) rfl (by kernel_rfl) (by kernel_rfl) (by kernel_rfl) (fun _ _ _ h => h) (Or.inl ⟨by rfl, ?hy16a⟩) (by assumption) ?r16a
      case hy16a =>
        intro w hSw
        try dsimp only at hSw
        go_simp
        try with_reducible rfl
      simp only [Act.put, List.setIfInBounds_toArray, List.set_cons_zero, List.set_cons_succ]
      refine wpAnyH_take (i := 17) (oi := ⟨some 24, Op.fieldAddr 100 (Operand.tmp 5) 1, 0, _, _, none⟩) (v := ?v17a) rfl (by kernel_rfl) (by kernel_rfl) (by kernel_rfl) (fun _ _ _ h => h) (Or.inl ⟨by rfl, ?hy17a⟩) (by assumption) ?r17a
      case hy17a =>
        intro w hSw
        try dsimp only at hSw
        go_simp
        try with_reducible rfl
      simp only [Act.put, List.setIfInBounds_toArray, List.set_cons_zero, List.set_cons_succ]
      refine wpAnyH_take (i := 18) (oi := ⟨some 25, Op.load 2 (Operand.tmp 24), 2, _, _, none⟩) (v := ?v18a) rfl (by kernel_rfl) (by kernel_rfl) (by kernel_rfl) (fun _ _ _ h => h) (Or.inl ⟨by rfl, ?hy18a⟩) (by assumption) ?r18a
      case hy18a =>
        intro w hSw
        try dsimp only at hSw
        go_simp
        try with_reducible rfl
      simp only [Act.put, List.setIfInBounds_toArray, List.set_cons_zero, List.set_cons_succ]
      refine wpAnyH_take (i := 19) (oi := ⟨some 26, Op.fieldAddr 100 (Operand.tmp 5) 2, 0, _, _, none⟩) (v := ?v19a) rfl (by kernel_rfl) (by kernel_rfl) (by kernel_rfl) (fun _ _ _ h => h) (Or.inl ⟨by rfl, ?hy19a⟩) (by assumption) ?r19a
      case hy19a =>
        intro w hSw
        try dsimp only at hSw
        go_simp
        try with_reducible rfl
      simp only [Act.put, List.setIfInBounds_toArray, List.set_cons_zero, List.set_cons_succ]
      refine wpAnyH_take (i := 20) (oi := ⟨some 27, Op.load 2 (Operand.tmp 26), 2, _, _, none⟩) (v := ?v20a) rfl (by kernel_rfl) (by kernel_rfl) (by kernel_rfl) (fun _ _ _ h => h) (Or.inl ⟨by rfl, ?hy20a⟩) (by assumption) ?r20a
      case hy20a =>
        intro w hSw
        try dsimp only at hSw
        go_simp
        try with_reducible rfl
      simp only [Act.put, List.setIfInBounds_toArray, List.set_cons_zero, List.set_cons_succ]
      refine wpAnyH_take (i := 21) (oi := ⟨some 28, Op.fieldAddr 97 (Operand.tmp 4) 2, 0, _, _, none⟩) (v := ?v21a) rfl (by kernel_rfl) (by kernel_rfl) (by kernel_rfl) (fun _ _ _ h => h) (Or.inl ⟨by rfl, ?hy21a⟩) (by assumption) ?r21a
      case hy21a =>
        intro w hSw
        try dsimp only at hSw
        go_simp
        try with_reducible rfl
      simp only [Act.put, List.setIfInBounds_toArray, List.set_cons_zero, List.set_cons_succ]
      refine wpAnyH_take (i := 22) (oi := ⟨some 29, Op.load 93 (Operand.tmp 28), 93, _, _, none⟩) (v := ?v22a) rfl (by kernel_rfl) (by kernel_rfl) (by kernel_rfl) (fun _ _ _ h => h) (Or.inl ⟨by rfl, ?hy22a⟩) (by assumption) ?r22a
      case hy22a =>
        intro w hSw
        try dsimp only at hSw
        go_simp
        try with_reducible rfl
      simp only [Act.put, List.setIfInBounds_toArray, List.set_cons_zero, List.set_cons_succ]
      refine wpAnyH_take (i := 23) (oi := ⟨some 30, Op.move (Operand.tmp 0), 59, _, _, none⟩) (v := ?v23a) rfl (by kernel_rfl) (by kernel_rfl) (by kernel_rfl) (fun _ _ _ h => h) (Or.inl ⟨by rfl, ?hy23a⟩) (by assumption) ?r23a
      case hy23a =>
        intro w hSw
        try dsimp only at hSw
        go_simp
        try with_reducible rfl
      simp only [Act.put, List.setIfInBounds_toArray, List.set_cons_zero, List.set_cons_succ]
      refine wpAnyH_take (i := 24) (oi := ⟨some 31, Op.nilCheck (Operand.tmp 30), 0, _, _, none⟩) (v := ?v24a) rfl (by kernel_rfl) (by kernel_rfl) (by kernel_rfl) (fun _ _ _ h => h) (Or.inl ⟨by rfl, ?hy24a⟩) (by assumption) ?r24a
      case hy24a =>
        intro w hSw
        try dsimp only at hSw
        go_simp
        try with_reducible rfl
      simp only [Act.put, List.setIfInBounds_toArray, List.set_cons_zero, List.set_cons_succ]
      refine wpAnyH_take (i := 25) (oi := ⟨some 32, Op.fieldAddr 108 (Operand.tmp 31) 2, 0, _, _, none⟩) (v := ?v25a) rfl (by kernel_rfl) (by kernel_rfl) (by kernel_rfl) (fun _ _ _ h => h) (Or.inl ⟨by rfl, ?hy25a⟩) (by assumption) ?r25a
      case hy25a =>
        intro w hSw
        try dsimp only at hSw
        go_simp
        try with_reducible rfl
      simp only [Act.put, List.setIfInBounds_toArray, List.set_cons_zero, List.set_cons_succ]
      refine wpAnyH_take (i := 26) (oi := ⟨some 33, Op.fieldAddr 106 (Operand.tmp 32) 0, 0, _, _, none⟩) (v := ?v26a) rfl (by kernel_rfl) (by kernel_rfl) (by kernel_rfl) (fun _ _ _ h => h) (Or.inl ⟨by rfl, ?hy26a⟩) (by assumption) ?r26a
      case hy26a =>
        intro w hSw
        try dsimp only at hSw
        go_simp
        try with_reducible rfl
      simp only [Act.put, List.setIfInBounds_toArray, List.set_cons_zero, List.set_cons_succ]
      refine wpAnyH_take (i := 27) (oi := ⟨some 34, Op.load 93 (Operand.tmp 33), 93, _, _, none⟩) (v := ?v27a) rfl (by kernel_rfl) (by kernel_rfl) (by kernel_rfl) (fun _ _ _ h => h) (Or.inl ⟨by rfl, ?hy27a⟩) (by assumption) ?r27a
      case hy27a =>
        intro w hSw
        try dsimp only at hSw
        go_simp
        try with_reducible rfl
      simp only [Act.put, List.setIfInBounds_toArray, List.set_cons_zero, List.set_cons_succ]
      refine wpAnyH_take (i := 31) (oi := ⟨some 38, Op.fieldAddr 97 (Operand.tmp 4) 7, 0, _, _, none⟩) (v := ?v31a) rfl (by kernel_rfl) (by kernel_rfl) (by kernel_rfl) (fun _ _ _ h => h) (Or.inl ⟨by rfl, ?hy31a⟩) (by assumption) ?r31a
      case hy31a =>
        intro w hSw
        try dsimp only at hSw
        go_simp
        try with_reducible rfl
      simp only [Act.put, List.setIfInBounds_toArray, List.set_cons_zero, List.set_cons_succ]
      refine wpAnyH_take (i := 32) (oi := ⟨some 39, Op.load 4 (Operand.tmp 38), 4, _, _, none⟩) (v := ?v32a) rfl (by kernel_rfl) (by kernel_rfl) (by kernel_rfl) (fun _ _ _ h => h) (Or.inl ⟨by rfl, ?hy32a⟩) (by assumption) ?r32a
      case hy32a =>
        intro w hSw
        try dsimp only at hSw
        go_simp
        try with_reducible rfl
      simp only [Act.put, List.setIfInBounds_toArray, List.set_cons_zero, List.set_cons_succ]
      refine wpAnyH_take (i := 33) (oi := ⟨some 40, Op.unOp UnOp.not 4 (Operand.tmp 39), 4, _, _, none⟩) (v := ?v33a) rfl (by kernel_rfl) (by kernel_rfl) (by kernel_rfl) (fun _ _ _ h => h) (Or.inl ⟨by rfl, ?hy33a⟩) (by assumption) ?r33a
      case hy33a =>
        intro w hSw
        try dsimp only at hSw
        go_simp
        try with_reducible rfl
      simp only [Act.put, List.setIfInBounds_toArray, List.set_cons_zero, List.set_cons_succ]
      refine wpAnyH_ready (rs := [28]) (by kernel_rfl) (by simp) ?_
      refine AllReadyH.cons rfl (fun K hK => ?_) AllReadyH.nil
      go_simp
      refine (sub_any _ _ _ _ _ (nsOf_pos _) (nsOf_lt _) (nsOf_pos _) (nsOf_lt _) a0 a1 s0 s1).mono ?_
      rintro e1 w1 ⟨d, rfl, hd, hb1⟩
      have hdr : d = clamp (e.at_ - m.st) := by rw [hd, ns_sc, ns_sc]
      have HDR : Hid (d = clamp (e.at_ - m.st)) := hdr
      obtain ⟨d0, d1⟩ : -9223372036854775808 ≤ d ∧ d ≤ 9223372036854775807 := by rw [hdr]; exact clamp_I64 _
      obtain ⟨t0, t1⟩ := tdiv_I64 d0 d1
      have hwd : IntKind.i64.wrap (d.tdiv 60000000000) = d.tdiv 60000000000 := by rw [IntKind.wrap_i64]; omega
      have hmin := mins_walk HDR.out
      have HMIN : Hid _ := hmin
      clear hd hdr t0 t1 hmin
      show K _ _
      refine hK.out _ _ (HMK.out _ ((Below.refl _ _).drew.trans hb1)) (fun hHeld2 => ?_)
      clear hK K hHeld
      try simp only [Act.put, List.setIfInBounds_toArray, List.set_cons_zero, List.set_cons_succ]
      refine wpAnyH_take (i := 29) (oi := ⟨some 36, Op.binOp BinOp.quo 47 (Operand.tmp 35) (Operand.const (Value.int IntKind.i64 60000000000)) 47, 47, _, _, none⟩) (v := ?v29a) rfl (by kernel_rfl) (by kernel_rfl) (by kernel_rfl) (fun _ _ _ h => h) (Or.inl ⟨by rfl, ?hy29a⟩) (by assumption) ?r29a
      case hy29a =>
        intro w hSw
        try dsimp only at hSw
        go_simp
        try with_reducible rfl
      simp only [Act.put, List.setIfInBounds_toArray, List.set_cons_zero, List.set_cons_succ]
      refine wpAnyH_take (i := 30) (oi := ⟨some 37, Op.call { callee := Callee.builtin Builtin.max, args := #[Operand.const (Value.int IntKind.i64 0), Operand.tmp 36], argTypes := #[2, 2] }, 2, _, _, none⟩) (v := ?v30a) rfl (by kernel_rfl) (by kernel_rfl) (by kernel_rfl) (fun _ _ _ h => h) (Or.inl ⟨by rfl, ?hy30a⟩) (by assumption) ?r30a
      case hy30a =>
        intro w hSw
        try dsimp only at hSw
        go_simp
        try with_reducible rfl
      simp only [Act.put, List.setIfInBounds_toArray, List.set_cons_zero, List.set_cons_succ]
      refine wpAnyH_take (i := 34) (oi := ⟨some 41, Op.move (Operand.tmp 40), 4, _, _, none⟩) (v := ?v34a) rfl (by kernel_rfl) (by kernel_rfl) (by kernel_rfl) (fun _ _ _ h => h) (Or.inl ⟨by rfl, ?hy34a⟩) (by assumption) ?r34a
      case hy34a =>
        intro w hSw
        try dsimp only at hSw
        go_simp
        try with_reducible rfl
      simp only [Act.put, List.setIfInBounds_toArray, List.set_cons_zero, List.set_cons_succ]
      refine wpAnyH_take (i := 35) (oi := ⟨some 42, Op.move (Operand.tmp 0), 59, _, _, some (34, false)⟩) (v := ?v35a) rfl (by kernel_rfl) (by kernel_rfl) (by kernel_rfl) (fun _ _ _ h => h) (Or.inl ⟨by rfl, ?hy35a⟩) (by assumption) ?r35a
      case hy35a =>
        intro w hSw
        try dsimp only at hSw
        go_simp
        try with_reducible rfl
      simp only [Act.put, List.setIfInBounds_toArray, List.set_cons_zero, List.set_cons_succ]
      refine wpAnyH_take (i := 36) (oi := ⟨some 43, Op.nilCheck (Operand.tmp 42), 0, _, _, some (34, false)⟩) (v := ?v36a) rfl (by kernel_rfl) (by kernel_rfl) (by kernel_rfl) (fun _ _ _ h => h) (Or.inl ⟨by rfl, ?hy36a⟩) (by assumption) ?r36a
      case hy36a =>
        intro w hSw
        try dsimp only at hSw
        go_simp
        try with_reducible rfl
      simp only [Act.put, List.setIfInBounds_toArray, List.set_cons_zero, List.set_cons_succ]
      refine wpAnyH_take (i := 37) (oi := ⟨some 44, Op.fieldAddr 108 (Operand.tmp 43) 2, 0, _, _, some (34, false)⟩) (v := ?v37a) rfl (by kernel_rfl) (by kernel_rfl) (by kernel_rfl) (fun _ _ _ h => h) (Or.inl ⟨by rfl, ?hy37a⟩) (by assumption) ?r37a
      case hy37a =>
        intro w hSw
        try dsimp only at hSw
        go_simp
        try with_reducible rfl
      simp only [Act.put, List.setIfInBounds_toArray, List.set_cons_zero, List.set_cons_succ]
      refine wpAnyH_take (i := 38) (oi := ⟨some 45, Op.fieldAddr 106 (Operand.tmp 44) 5, 0, _, _, some (34, false)⟩) (v := ?v38a) rfl (by kernel_rfl) (by kernel_rfl) (by kernel_rfl) (fun _ _ _ h => h) (Or.inl ⟨by rfl, ?hy38a⟩) (by assumption) ?r38a
      case hy38a =>
        intro w hSw
        try dsimp only at hSw
        go_simp
        try with_reducible rfl
      simp only [Act.put, List.setIfInBounds_toArray, List.set_cons_zero, List.set_cons_succ]
      refine wpAnyH_take (i := 39) (oi := ⟨some 46, Op.load 103 (Operand.tmp 45), 103, _, _, some (34, false)⟩) (v := ?v39a) rfl (by kernel_rfl) (by kernel_rfl) (by kernel_rfl) (fun _ _ _ h => h) (Or.inl ⟨by rfl, ?hy39a⟩) (by assumption) ?r39a
      case hy39a =>
        intro w hSw
        try dsimp only at hSw
        go_simp
        try with_reducible rfl
      simp only [Act.put, List.setIfInBounds_toArray, List.set_cons_zero, List.set_cons_succ]
      refine wpAnyH_take (i := 40) (oi := ⟨some 47, Op.fieldAddr 97 (Operand.tmp 4) 3, 0, _, _, some (34, false)⟩) (v := ?v40a) rfl (by kernel_rfl) (by kernel_rfl) (by kernel_rfl) (fun _ _ _ h => h) (Or.inl ⟨by rfl, ?hy40a⟩) (by assumption) ?r40a
      case hy40a =>
        intro w hSw
        try dsimp only at hSw
        go_simp
        try with_reducible rfl
      simp only [Act.put, List.setIfInBounds_toArray, List.set_cons_zero, List.set_cons_succ]
      refine wpAnyH_take (i := 41) (oi := ⟨some 48, Op.load 9 (Operand.tmp 47), 9, _, _, some (34, false)⟩) (v := ?v41a) rfl (by kernel_rfl) (by kernel_rfl) (by kernel_rfl) (fun _ _ _ h => h) (Or.inl ⟨by rfl, ?hy41a⟩) (by assumption) ?r41a
      case hy41a =>
        intro w hSw
        try dsimp only at hSw
        go_simp
        try with_reducible rfl
      simp only [Act.put, List.setIfInBounds_toArray, List.set_cons_zero, List.set_cons_succ]
      refine wpAnyH_take (i := 42) (oi := ⟨some 49, Op.fieldAddr 97 (Operand.tmp 4) 5, 0, _, _, some (34, false)⟩) (v := ?v42a) rfl (by kernel_rfl) (by kernel_rfl) (by kernel_rfl) (fun _ _ _ h => h) (Or.inl ⟨by rfl, ?hy42a⟩) (by assumption) ?r42a
      case hy42a =>
        intro w hSw
        try dsimp only at hSw
        go_simp
        try with_reducible rfl
      simp only [Act.put, List.setIfInBounds_toArray, List.set_cons_zero, List.set_cons_succ]
      refine wpAnyH_take (i := 43) (oi := ⟨some 50, Op.load 2 (Operand.tmp 49), 2, _, _, some (34, false)⟩) (v := ?v43a) rfl (by kernel_rfl) (by kernel_rfl) (by kernel_rfl) (fun _ _ _ h => h) (Or.inl ⟨by rfl, ?hy43a⟩) (by assumption) ?r43a
      case hy43a =>
        intro w hSw
        try dsimp only at hSw
        go_simp
        try with_reducible rfl
      simp only [Act.put, List.setIfInBounds_toArray, List.set_cons_zero, List.set_cons_succ]
      refine wpAnyH_take (i := 44) (oi := ⟨some 51, Op.build 116 #[(0, Operand.tmp 48), (1, Operand.tmp 50)], 116, _, _, some (34, false)⟩) (v := ?v44a) rfl (by kernel_rfl) (by kernel_rfl) (by kernel_rfl) (fun _ _ _ h => h) (Or.inl ⟨by rfl, ?hy44a⟩) (by assumption) ?r44a
      case hy44a =>
        intro w hSw
        try dsimp only at hSw
        go_simp
        try with_reducible rfl
      simp only [Act.put, List.setIfInBounds_toArray, List.set_cons_zero, List.set_cons_succ]
      refine wpAnyH_take (i := 45) (oi := ⟨some 52, Op.lookup 103 (Operand.tmp 46) (Operand.tmp 51) false, 4, _, _, some (34, false)⟩) (v := ?v45a) rfl (by kernel_rfl) (by kernel_rfl) (by kernel_rfl) (fun _ _ _ h => h) (Or.inl ⟨by rfl, ?hy45a⟩) (by assumption) ?r45a
      case hy45a =>
        intro w hSw
        try dsimp only at hSw
        go_simp
        try with_reducible rfl
      simp only [Act.put, List.setIfInBounds_toArray, List.set_cons_zero, List.set_cons_succ]
      refine wpAnyH_take (i := 46) (oi := ⟨some 53, Op.unOp UnOp.not 4 (Operand.tmp 52), 4, _, _, some (34, false)⟩) (v := ?v46a) rfl (by kernel_rfl) (by kernel_rfl) (by kernel_rfl) (fun _ _ _ h => h) (Or.inl ⟨by rfl, ?hy46a⟩) (by assumption) ?r46a
      case hy46a =>
        intro w hSw
        try dsimp only at hSw
        go_simp
        try with_reducible rfl
      simp only [Act.put, List.setIfInBounds_toArray, List.set_cons_zero, List.set_cons_succ]
      refine wpAnyH_take (i := 47) (oi := ⟨some 54, Op.pick (Operand.tmp 41) (Operand.const (Value.bool true)) (Operand.tmp 53), 4, _, _, none⟩) (v := ?v47a) rfl (by kernel_rfl) (by kernel_rfl) (by kernel_rfl) (fun _ _ _ h => h) (Or.inl ⟨by rfl, ?hy47a⟩) (by assumption) ?r47a
      case hy47a =>
        intro w hSw
        try dsimp only at hSw
        go_simp
        try with_reducible rfl
      simp only [Act.put, List.setIfInBounds_toArray, List.set_cons_zero, List.set_cons_succ]
      refine wpAnyH_take (i := 48) (oi := ⟨some 55, Op.build 112 #[(0, Operand.tmp 7), (1, Operand.tmp 14), (2, Operand.tmp 16), (3, Operand.tmp 19), (4, Operand.tmp 21), (5, Operand.tmp 23), (6, Operand.tmp 25), (7, Operand.tmp 27), (8, Operand.tmp 37), (9, Operand.tmp 54)], 112, _, _, none⟩) (v := ?v48a) rfl (by kernel_rfl) (by kernel_rfl) (by kernel_rfl) (fun _ _ _ h => h) (Or.inl ⟨by rfl, ?hy48a⟩) (by assumption) ?r48a
      case hy48a =>
        intro w hSw
        try dsimp only at hSw
        go_simp
        try with_reducible rfl
      simp only [Act.put, List.setIfInBounds_toArray, List.set_cons_zero, List.set_cons_succ]
      refine wpAnyH_ready (rs := [49]) (by kernel_rfl) (by simp) ?_
      refine AllReadyH.cons rfl (fun K hK => ?_) AllReadyH.nil
      go_simp
      refine hK.out _ _ (HMK.out _ (((Below.refl _ _).drew.trans hb1).alloc hb1.size _)) (fun hHeld3 => ?_)
      clear hK K hHeld2
      try simp only [Act.put, List.setIfInBounds_toArray, List.set_cons_zero, List.set_cons_succ]
      refine wpAnyH_take (i := 50) (oi := ⟨some 6, Op.assign (Operand.tmp 56), 110, _, _, none⟩) (v := ?v50a) rfl (by kernel_rfl) (by kernel_rfl) (by kernel_rfl) (fun _ _ _ h => h) (Or.inl ⟨by rfl, ?hy50a⟩) (by assumption) ?r50a
      case hy50a =>
        intro w hSw
        try dsimp only at hSw
        go_simp
        try with_reducible rfl
      simp only [Act.put, List.setIfInBounds_toArray, List.set_cons_zero, List.set_cons_succ]
      refine wpAnyH_done (by kernel_rfl) ?_ _
      refine NoPanic.normal ?_
      go_wp2_with fail
      all_goals go_meet
      all_goals (
        have hbs := hb1.size
        have h2 : W.drew.heap.size = W.heap.size := rfl
        refine ⟨_, rfl, by omega, ?_, ((Below.refl _ _).drew.trans hb1).alloc hb1.size _⟩
        rw [HNS.out]
        unfold subC
        dsimp only
        rw [← HMIN.out]
        first
          | (rw [show max 0 (d.tdiv 60000000000) = 0 by omega]; exact Blk.new _ _ _)
          | (rw [show max 0 (d.tdiv 60000000000) = d.tdiv 60000000000 by omega]; exact Blk.new _ _ _))
  case rest =>
    rename World => wx
    subst hfo
    obtain ⟨p, rfl, hpw, hpB, hbx⟩ := hcut
    have hws := HWS.out
    have hbwx : Below w.heap.size w wx := HWB.out.trans (hbx.mono (by omega))
    have hE : Blk wx w.heap.size (evC e (.slice ta tl tc) vn vm) 97 := Blk.below HEW.out hbx (by omega)
    have g0 : wx.cell? ⟨w.heap.size, 0, none⟩ = some (.int .i64 e.kind) := hE.cell 0
    have g1 : wx.cell? ⟨w.heap.size, 1, none⟩ = some (.string e.oly) := hE.cell 1
    have g2 : wx.cell? ⟨w.heap.size, 2, none⟩ = some (.int .u64 (nsOf e.at_)) := hE.cell 2
    have g3 : wx.cell? ⟨w.heap.size, 3, none⟩ = some (.int .i64 (scOf e.at_)) := hE.cell 3
    have g4 : wx.cell? ⟨w.heap.size, 4, none⟩ = some (.pointer none) := hE.cell 4
    have g5 : wx.cell? ⟨w.heap.size, 5, none⟩ = some (.string e.team) := hE.cell 5
    have g6 : wx.cell? ⟨w.heap.size, 6, none⟩ = some (.slice ta tl tc) := hE.cell 6
    have g7 : wx.cell? ⟨w.heap.size, 7, none⟩ = some (.int .i64 e.task) := hE.cell 7
    have g8 : wx.cell? ⟨w.heap.size, 8, none⟩ = some (.string e.comp) := hE.cell 8
    have g9 : wx.cell? ⟨w.heap.size, 9, none⟩ = some (.bool e.force) := hE.cell 9
    have g10 : wx.cell? ⟨w.heap.size, 10, none⟩ = some (.int .i64 e.sub) := hE.cell 10
    have g11 : wx.cell? ⟨w.heap.size, 11, none⟩ = some (.int .i64 e.res) := hE.cell 11
    have g12 : wx.cell? ⟨w.heap.size, 12, none⟩ = some vn := hE.cell 12
    have g13 : wx.cell? ⟨w.heap.size, 13, none⟩ = some vm := hE.cell 13
    have g14 : wx.cell? ⟨w.heap.size, 14, none⟩ = some (.int .i64 e.left) := hE.cell 14
    have g15 : wx.cell? ⟨w.heap.size, 15, none⟩ = some (.bool e.frozen) := hE.cell 15
    have hLx : Blk wx L (ledC m dm sm (.slice sa m.subs.length cs) (.slice qa m.queue.length qc) vr) 108 := Blk.below HLW.out hbx (by omega)
    have hj := judges_any wx L sm es2 ck2 m e (.slice ta tl tc) vn vm HE0.out (hLx.lt) (hLx.cell 11) ((hbwx.block sm hsl).trans HH.out.smap) HH.out.sol
    unfold evC at hj
    clear hE hLx hws hwr l10 l2 l3 l4 l11 e2 e3 e4 e5 e6 e7 e8 e9 r1 r2 hW HEW HLW HWB HWS HLK HBY
    go_wp2_with fail
    refine hj.mono ?_
    rintro e1 wy ⟨rfl, hbj⟩
    clear hj g0 g1 g2 g3 g4 g5 g6 g7 g8 g9 g10 g11 g12 g13 g14 g15
    have hbwy : Below w.heap.size w wy := hbwx.trans (hbj.mono hbwx.size)
    have hp : Blk wy p (subC L n (m.newSub e)) 112 := hpB.below hbj hpB.lt
    have hy := HH.out.frame (w' := wy) (fun k hk => hbwy.block k (HH.out.below k hk)) hbwy.size
    have HY : Hid (LedAt wy F L m ⟨dm, sm, es, ck, es2, ck2, .slice sa m.subs.length cs, .slice qa m.queue.length qc, vr, ps⟩) := hy
    have HP : Hid (Blk wy p (subC L n (m.newSub e)) 112) := hp
    have HBW : Hid (Below w.heap.size w wy) := hbwy
    obtain ⟨i0, hi, hz0, hz1, hz2⟩ := info_parts infoF110
    clear hy hp hpB hbx hbj hbwx HH hbwy
    go_upto_if 59 with fail
    generalize htj : toJudge m e = tj
    have HTJ : Hid (toJudge m e = tj) := htj
    clear htj
    go_cut [] from 60 (fun w3 => ∃ vq', QSt wy w3 F L m ⟨dm, sm, es, ck, es2, ck2, .slice sa m.subs.length cs, .slice qa m.queue.length qc, vr, ps⟩ vq' (m.submit e).queue p (m.newSub e))
    case first =>
      cases tj
      case false =>
        have hqe : (m.submit e).queue = m.queue := by
          show (if toJudge m e then m.queue ++ [m.subs.length] else m.queue) = _
          rw [HTJ.out]
          rfl
        have HQE : Hid _ := hqe
        clear hqe
        go_wp2
        go_meet
        rw [HQE.out]
        exact ⟨_, QSt.kept HY.out HM0.out.qlt⟩
      case true =>
        have hqe : (m.submit e).queue = m.queue ++ [m.subs.length] := by
          show (if toJudge m e then m.queue ++ [m.subs.length] else m.queue) = _
          rw [HTJ.out]
          rfl
        have HQE : Hid _ := hqe
        have hLy := HY.out.led
        have hLlt := hLy.lt
        have hLq : (Value.slice qa q qc).ownBlock ≠ some L := by
          rw [HQ.out]
          exact owns_ne HY.out.queue HY.out.led (by decide)
        have hownq : ∀ o, (wy.alloc o).ownsRow 0 110 1 (.slice qa q qc) q ((m.queue.map (qel ps m.subs)).map pv) := fun o => by
          have := HY.out.queue.alloc o
          rw [HQ.out]
          exact this
        have y12 : wy.cell? ⟨L, 12, none⟩ = some (.slice qa q qc) := by rw [HQ.out]; exact hLy.cell 12
        have HLY : Hid (Blk wy L (ledC m dm sm (.slice sa m.subs.length cs) (.slice qa m.queue.length qc) vr) 108) := hLy
        have hkp : ∀ (o : Obj) (w2 : World), (wy.alloc o).grownBy w2 (Value.slice qa q qc).ownBlock → w2.cell? ⟨L, 12, none⟩ = some (.slice qa q qc) ∧ w2.frozen? ⟨L, 12, none⟩ = false := fun o w2 hg => by
          have hl : L < (wy.alloc o).heap.size := by simp; omega
          have hb : Blk w2 L (ledC m dm sm (.slice sa m.subs.length cs) (.slice qa m.queue.length qc) vr) 108 := (hg.block L hl (fun e => hLq e.symm)).trans (Blk.alloc hLy o)
          exact ⟨by rw [HQ.out]; exact hb.cell 12, hb.frozen 12⟩
        have HKP : Hid (∀ (o : Obj) (w2 : World), (wy.alloc o).grownBy w2 (Value.slice qa q qc).ownBlock → w2.cell? ⟨L, 12, none⟩ = some (.slice qa q qc) ∧ w2.frozen? ⟨L, 12, none⟩ = false) := hkp
        clear hqe hLy hkp
        go_wp2_with (at_builtin; refine wpList_append_lies _ rfl (.tmp 65) (.tmp 67) 102 rfl 0 110 i0 (.pointer none) 1 8 Tryf.underlying102 hi hz0 hz1 hz2 rfl (by omega) (.slice qa q qc) q ((m.queue.map (qel ps m.subs)).map pv) rfl (hownq _) ⟨wy.heap.size, 0, none⟩ 1 1 [.pointer (some ⟨p, 0, none⟩)] rfl rfl (news_one _ _ (by simp) _ _) (by simp [Value.oneCell']) (by omega) (by unfold maxLen; omega) (by omega) (Nat.zero_le _) (wy.heap.size + 1) (by simp) ?_; intro g cap w2 hown2 hgr2 hat2 hlt2; obtain ⟨k12, f12⟩ := HKP.out _ _ hgr2)
        go_meet
        rw [HQE.out]
        have FIN := QSt.push (s := m.newSub e) (p := p) HY.out HM0.out.qlt (g := g) (cap := cap) (w2 := w2) (by rw [← HQ.out]; exact hown2) (by rw [← HQ.out]; exact hgr2) (by rw [← HQ.out]; exact hat2)
        rw [← HQ.out] at FIN ⊢
        exact ⟨_, FIN⟩
    case rest =>
      rename World => w3
      obtain ⟨vq', hst⟩ := hcut
      have HST : Hid (QSt wy w3 F L m ⟨dm, sm, es, ck, es2, ck2, .slice sa m.subs.length cs, .slice qa m.queue.length qc, vr, ps⟩ vq' (m.submit e).queue p (m.newSub e)) := hst
      have hL3 := hst.led
      have hL3lt := hL3.lt
      have hLs : (Value.slice sa n cs).ownBlock ≠ some L := by
        rw [HN.out]
        exact owns_ne HY.out.subs HY.out.led (by decide)
      have z10 : w3.cell? ⟨L, 10, none⟩ = some (.slice sa n cs) := by rw [HN.out]; exact hL3.cell 10
      have hs3 : ∀ o, (w3.alloc o).ownsRow 0 110 1 (.slice sa n cs) n (ps.map ptrV) := fun o => by
        rw [HN.out]
        refine owns_of_block HY.out.subs (fun k hk => ?_)
        obtain ⟨C, hC⟩ := owns_row HY.out.subs hk
        rw [Below.heap_alloc _ _ _ (Nat.lt_of_lt_of_le hC.lt hst.size)]
        exact hst.keep k hC.lt (hC.apart HY.out.led (by decide)) (HY.out.apart k hk)
      have hkp : ∀ (o : Obj) (w4 : World), (w3.alloc o).grownBy w4 (Value.slice sa n cs).ownBlock → w4.cell? ⟨L, 10, none⟩ = some (.slice sa n cs) ∧ w4.frozen? ⟨L, 10, none⟩ = false := fun o w4 hg => by
        have hl : L < (w3.alloc o).heap.size := by simp; omega
        have hb : Blk w4 L (ledC m dm sm (.slice sa m.subs.length cs) vq' vr) 108 := (hg.block L hl (fun e => hLs e.symm)).trans (Blk.alloc hL3 o)
        exact ⟨by rw [HN.out]; exact hb.cell 10, hb.frozen 10⟩
      have HKP : Hid (∀ (o : Obj) (w4 : World), (w3.alloc o).grownBy w4 (Value.slice sa n cs).ownBlock → w4.cell? ⟨L, 10, none⟩ = some (.slice sa n cs) ∧ w4.frozen? ⟨L, 10, none⟩ = false) := hkp
      clear hst hkp hL3 HTJ
      go_wp2_with (at_builtin; refine wpList_append_lies _ rfl (.tmp 77) (.tmp 79) 102 rfl 0 110 i0 (.pointer none) 1 8 Tryf.underlying102 hi hz0 hz1 hz2 rfl (by omega) (.slice sa n cs) n (ps.map ptrV) rfl (hs3 _) ⟨w3.heap.size, 0, none⟩ 1 1 [.pointer (some ⟨p, 0, none⟩)] rfl rfl (news_one _ _ (by simp) _ _) (by simp [Value.oneCell']) (by omega) (by unfold maxLen; omega) (by omega) (Nat.zero_le _) (w3.heap.size + 1) (by simp) ?_; intro g2 cap2 w4 hown4 hgr4 hat4 hlt4; obtain ⟨q10, f10⟩ := HKP.out _ _ hgr4)
      have FIN := LedAt.submit (w := w) (w4 := w4) (g2 := g2) (cap2 := cap2) HY.out HM0.out.rlt (by rw [← HN.out]; exact HP.out) hpw HBW.out HST.out (by rw [← HN.out]; exact hown4) (by rw [← HN.out]; exact hgr4) (by rw [← HN.out]; exact hat4)
      rw [← HN.out] at FIN
      have HF : Hid _ := FIN
      clear FIN
      go_end0
      exact ⟨rfl, _, ⟨_, HF.out.1⟩, HF.out.2⟩
end Go.Proofs.Qxb6616853aFmt
