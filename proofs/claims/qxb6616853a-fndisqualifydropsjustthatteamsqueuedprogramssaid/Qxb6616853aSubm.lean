import Derived.Test.Qxb6616853aPush
import Derived.Deep.AppendLies
namespace Go.Proofs.Qxb6616853a
open Go.RowKit
attribute [local go_sem ↓] Go.wp_at_zero Go.wp_at_succ

/-- Behind the new submission: its block. -/
def SubCut (w W : World) (L : Nat) (id : Int) (team : ByteArray) (v : Value) (wx : World) : Prop :=
  ∃ p, v = .pointer (some ⟨p, 0, none⟩) ∧ w.heap.size ≤ p ∧ Blk wx p (subC L id team) 69 ∧ Below W.heap.size W wx

theorem news_one (w : World) (n : Nat) (hn : n = w.heap.size) (v : Value) (t : TypeId) : ∀ j u, [v][j]? = some u → (w.alloc (.cells #[v] t)).cell? ((⟨n, 0, none⟩ : Addr).add j) = some u := by
  intro j u hj
  rcases j with _ | j
  · simp at hj
    subst hj
    rw [Addr.add_lit, World.cell?_alloc_at #[v] t n (0 + 0) hn]
    rfl
  · simp at hj

theorem info70 : (Try.prog.info? 70).map (fun i => (i.zero, i.size, i.bytes)) = some (some (.pointer none), 1, 8) := by kernel_rfl

set_option maxRecDepth 20000 in
set_option maxHeartbeats 4000000 in
theorem submit_any (w : World) (F : Nat → Prop) (L : Nat) (nm : ByteArray) (D T : List ByteArray) (Q : List Nat) (team : ByteArray) (h : IsLed w F L nm D T Q) (hT : T.length ≤ 4096) (hQ : Q.length ≤ 4096) :
    Calls Try.prog 34 #[.pointer (some ⟨L, 0, none⟩), .agg (evC team), .agg recC] w (LedPost w F L nm D (T ++ [team]) (Q ++ [T.length])) := by
  obtain ⟨dm, sm, es, ck, vs, vq, ps, h⟩ := h
  obtain ⟨sa, cs, rfl⟩ := owns_form h.subs
  obtain ⟨qa, qc, rfl⟩ := owns_form h.queue
  have hL := h.led.lt
  have hsl := h.below sm h.fsm
  obtain ⟨W, hW0⟩ : ∃ W, W = (w.alloc (.cells (evC team) 65)).alloc (.cells recC 67) := ⟨_, rfl⟩
  have hW : Hid (W = (w.alloc (.cells (evC team) 65)).alloc (.cells recC 67)) := hW0
  have hWs : W.heap.size = w.heap.size + 2 := by rw [hW0]; simp
  have hWz : w.heap.size + 2 ≤ W.heap.size := by omega
  have hWb : Below w.heap.size w W := by rw [hW0]; exact ((Below.refl _ _).alloc (Nat.le_refl _) _).alloc (by simp) _
  have hLW : Blk W L (ledC nm dm sm (.slice sa T.length cs) (.slice qa Q.length qc)) 59 := h.led.below hWb hL
  have hEW : Blk W w.heap.size (evC team) 65 := by rw [hW0]; exact (Blk.new _ _ _).alloc _
  have hRW : Blk W (w.heap.size + 1) recC 67 := by
    have := Blk.new (w.alloc (.cells (evC team) 65)) recC 67
    rw [hW0]
    simpa using this
  have l10 : W.cell? ⟨L, 10, none⟩ = some (.slice sa T.length cs) := hLW.cell 10
  have l2 : W.cell? ⟨L, 2, none⟩ = some (.int .u64 0) := hLW.cell 2
  have l3 : W.cell? ⟨L, 3, none⟩ = some (.int .i64 0) := hLW.cell 3
  have l4 : W.cell? ⟨L, 4, none⟩ = some (.pointer none) := hLW.cell 4
  have l11 : W.cell? ⟨L, 11, none⟩ = some (.map (some sm)) := hLW.cell 11
  have e2 : W.cell? ⟨w.heap.size, 2, none⟩ = some (.int .u64 0) := hEW.cell 2
  have e3 : W.cell? ⟨w.heap.size, 3, none⟩ = some (.int .i64 0) := hEW.cell 3
  have e4 : W.cell? ⟨w.heap.size, 4, none⟩ = some (.pointer none) := hEW.cell 4
  have e5 : W.cell? ⟨w.heap.size, 5, none⟩ = some (.string team) := hEW.cell 5
  have e6 : W.cell? ⟨w.heap.size, 6, none⟩ = some (.slice none 0 0) := hEW.cell 6
  have e7 : W.cell? ⟨w.heap.size, 7, none⟩ = some (.int .i64 0) := hEW.cell 7
  have e8 : W.cell? ⟨w.heap.size, 8, none⟩ = some (.string ByteArray.empty) := hEW.cell 8
  have e9 : W.cell? ⟨w.heap.size, 9, none⟩ = some (.bool false) := hEW.cell 9
  have r1 : W.cell? ⟨w.heap.size + 1, 1, none⟩ = some (.int .i64 0) := hRW.cell 1
  have r2 : W.cell? ⟨w.heap.size + 1, 2, none⟩ = some (.int .i64 0) := hRW.cell 2
  have HH : Hid (LedAt w F L nm D T Q dm sm es ck (.slice sa T.length cs) (.slice qa Q.length qc) ps) := h
  have HEW : Hid _ := hEW
  have HWB : Hid _ := hWb
  have HLW : Hid _ := hLW
  have HWS : Hid (W.heap.size = w.heap.size + 2) := hWs
  have hmp : Hid (w.heap[sm]? = some (.map #[] 0)) := h.smap
  obtain ⟨n, hn⟩ : ∃ n, n = T.length := ⟨_, rfl⟩
  have HN : Hid (n = T.length) := hn
  obtain ⟨m, hm⟩ : ∃ m, m = Q.length := ⟨_, rfl⟩
  have HM : Hid (m = Q.length) := hm
  rw [← hn] at l10 hT
  rw [← hm] at hQ
  clear h hEW hRW hLW hWb hWs hW0 hn hm
  have hcv : ∀ w, (convert 26 9 (.slice none 0 0)).run Try.prog w = .ok (.string ByteArray.empty) w := fun w => by kernel_rfl
  have hwr : IntKind.i64.wrap ((n : Int) + 1) = (n : Int) + 1 := by rw [IntKind.wrap_i64]; omega
  have HMK : Hid (∀ w', Below W.heap.size W w' → w'.cell? ⟨L, 10, none⟩ = some (.slice sa n cs) ∧ w'.cell? ⟨L, 2, none⟩ = some (.int .u64 0) ∧ w'.cell? ⟨L, 3, none⟩ = some (.int .i64 0) ∧ w'.cell? ⟨L, 4, none⟩ = some (.pointer none) ∧ w'.cell? ⟨L, 11, none⟩ = some (.map (some sm)) ∧
        w'.cell? ⟨w.heap.size, 2, none⟩ = some (.int .u64 0) ∧ w'.cell? ⟨w.heap.size, 3, none⟩ = some (.int .i64 0) ∧ w'.cell? ⟨w.heap.size, 4, none⟩ = some (.pointer none) ∧ w'.cell? ⟨w.heap.size, 5, none⟩ = some (.string team) ∧ w'.cell? ⟨w.heap.size, 6, none⟩ = some (.slice none 0 0) ∧
        w'.cell? ⟨w.heap.size, 7, none⟩ = some (.int .i64 0) ∧ w'.cell? ⟨w.heap.size, 8, none⟩ = some (.string ByteArray.empty) ∧ w'.cell? ⟨w.heap.size, 9, none⟩ = some (.bool false) ∧ w'.cell? ⟨w.heap.size + 1, 1, none⟩ = some (.int .i64 0) ∧ w'.cell? ⟨w.heap.size + 1, 2, none⟩ = some (.int .i64 0)) := by
    intro w' hb
    exact ⟨(hb.cell (p := ⟨L, 10, none⟩) (by show L < _; omega)).trans l10, (hb.cell (p := ⟨L, 2, none⟩) (by show L < _; omega)).trans l2, (hb.cell (p := ⟨L, 3, none⟩) (by show L < _; omega)).trans l3, (hb.cell (p := ⟨L, 4, none⟩) (by show L < _; omega)).trans l4, (hb.cell (p := ⟨L, 11, none⟩) (by show L < _; omega)).trans l11, (hb.cell (p := ⟨w.heap.size, 2, none⟩) (by show w.heap.size < _; omega)).trans e2, (hb.cell (p := ⟨w.heap.size, 3, none⟩) (by show w.heap.size < _; omega)).trans e3, (hb.cell (p := ⟨w.heap.size, 4, none⟩) (by show w.heap.size < _; omega)).trans e4, (hb.cell (p := ⟨w.heap.size, 5, none⟩) (by show w.heap.size < _; omega)).trans e5, (hb.cell (p := ⟨w.heap.size, 6, none⟩) (by show w.heap.size < _; omega)).trans e6, (hb.cell (p := ⟨w.heap.size, 7, none⟩) (by show w.heap.size < _; omega)).trans e7, (hb.cell (p := ⟨w.heap.size, 8, none⟩) (by show w.heap.size < _; omega)).trans e8, (hb.cell (p := ⟨w.heap.size, 9, none⟩) (by show w.heap.size < _; omega)).trans e9, (hb.cell (p := ⟨w.heap.size + 1, 1, none⟩) (by show w.heap.size + 1 < _; omega)).trans r1, (hb.cell (p := ⟨w.heap.size + 1, 2, none⟩) (by show w.heap.size + 1 < _; omega)).trans r2⟩
  unfold evC recC at hW ⊢
  go_enter Try.func34, Try.ntmps34
  go_upto_region 1 with fail
  rw [← hW.out]
  go_cut [6] from 7 (fun v wx => SubCut w W L ((n : Int) + 1) team v wx)
  case first =>
    clear hW
    refine wp_region_noPanic ?_
    refine wp_region_held_drew (S := (fun w' => w'.cell? ⟨L, 10, none⟩ = some (.slice sa n cs) ∧ w'.cell? ⟨L, 2, none⟩ = some (.int .u64 0) ∧ w'.cell? ⟨L, 3, none⟩ = some (.int .i64 0) ∧ w'.cell? ⟨L, 4, none⟩ = some (.pointer none) ∧ w'.cell? ⟨L, 11, none⟩ = some (.map (some sm)) ∧
        w'.cell? ⟨w.heap.size, 2, none⟩ = some (.int .u64 0) ∧ w'.cell? ⟨w.heap.size, 3, none⟩ = some (.int .i64 0) ∧ w'.cell? ⟨w.heap.size, 4, none⟩ = some (.pointer none) ∧ w'.cell? ⟨w.heap.size, 5, none⟩ = some (.string team) ∧ w'.cell? ⟨w.heap.size, 6, none⟩ = some (.slice none 0 0) ∧
        w'.cell? ⟨w.heap.size, 7, none⟩ = some (.int .i64 0) ∧ w'.cell? ⟨w.heap.size, 8, none⟩ = some (.string ByteArray.empty) ∧ w'.cell? ⟨w.heap.size, 9, none⟩ = some (.bool false) ∧ w'.cell? ⟨w.heap.size + 1, 1, none⟩ = some (.int .i64 0) ∧ w'.cell? ⟨w.heap.size + 1, 2, none⟩ = some (.int .i64 0))) (by kernel_rfl) (HMK.out _ (Below.refl _ _).drew) (fun hHeld => ?_)
    refine wpAnyH_take (i := 0) (oi := ⟨some 7, Op.move (Operand.tmp 0), 32, _, _, none⟩) (v := ?v0) rfl (by kernel_rfl) (by kernel_rfl) (by kernel_rfl) (fun _ _ _ h => h) (Or.inl ⟨by rfl, ?hy0⟩) (by assumption) ?r0
    case hy0 =>
      intro w hSw
      try dsimp only at hSw
      go_simp
      try with_reducible rfl
    simp only [Act.put, List.setIfInBounds_toArray, List.set_cons_zero, List.set_cons_succ]
    refine wpAnyH_take (i := 1) (oi := ⟨some 8, Op.move (Operand.tmp 0), 32, _, _, none⟩) (v := ?v1) rfl (by kernel_rfl) (by kernel_rfl) (by kernel_rfl) (fun _ _ _ h => h) (Or.inl ⟨by rfl, ?hy1⟩) (by assumption) ?r1
    case hy1 =>
      intro w hSw
      try dsimp only at hSw
      go_simp
      try with_reducible rfl
    simp only [Act.put, List.setIfInBounds_toArray, List.set_cons_zero, List.set_cons_succ]
    refine wpAnyH_take (i := 2) (oi := ⟨some 9, Op.nilCheck (Operand.tmp 8), 0, _, _, none⟩) (v := ?v2) rfl (by kernel_rfl) (by kernel_rfl) (by kernel_rfl) (fun _ _ _ h => h) (Or.inl ⟨by rfl, ?hy2⟩) (by assumption) ?r2
    case hy2 =>
      intro w hSw
      try dsimp only at hSw
      go_simp
      try with_reducible rfl
    simp only [Act.put, List.setIfInBounds_toArray, List.set_cons_zero, List.set_cons_succ]
    refine wpAnyH_take (i := 3) (oi := ⟨some 10, Op.fieldAddr 59 (Operand.tmp 9) 2, 0, _, _, none⟩) (v := ?v3) rfl (by kernel_rfl) (by kernel_rfl) (by kernel_rfl) (fun _ _ _ h => h) (Or.inl ⟨by rfl, ?hy3⟩) (by assumption) ?r3
    case hy3 =>
      intro w hSw
      try dsimp only at hSw
      go_simp
      try with_reducible rfl
    simp only [Act.put, List.setIfInBounds_toArray, List.set_cons_zero, List.set_cons_succ]
    refine wpAnyH_take (i := 4) (oi := ⟨some 11, Op.fieldAddr 56 (Operand.tmp 10) 4, 0, _, _, none⟩) (v := ?v4) rfl (by kernel_rfl) (by kernel_rfl) (by kernel_rfl) (fun _ _ _ h => h) (Or.inl ⟨by rfl, ?hy4⟩) (by assumption) ?r4
    case hy4 =>
      intro w hSw
      try dsimp only at hSw
      go_simp
      try with_reducible rfl
    simp only [Act.put, List.setIfInBounds_toArray, List.set_cons_zero, List.set_cons_succ]
    refine wpAnyH_take (i := 5) (oi := ⟨some 12, Op.load 52 (Operand.tmp 11), 52, _, _, none⟩) (v := ?v5) rfl (by kernel_rfl) (by kernel_rfl) (by kernel_rfl) (fun _ _ _ h => h) (Or.inl ⟨by rfl, ?hy5⟩) (by assumption) ?r5
    case hy5 =>
      intro w hSw
      try dsimp only at hSw
      go_simp
      try with_reducible rfl
    simp only [Act.put, List.setIfInBounds_toArray, List.set_cons_zero, List.set_cons_succ]
    refine wpAnyH_take (i := 6) (oi := ⟨some 13, Op.call { callee := Callee.builtin Builtin.len, args := #[Operand.tmp 12], argTypes := #[52] }, 3, _, _, none⟩) (v := ?v6) rfl (by kernel_rfl) (by kernel_rfl) (by kernel_rfl) (fun _ _ _ h => h) (Or.inl ⟨by rfl, ?hy6⟩) (by assumption) ?r6
    case hy6 =>
      intro w hSw
      try dsimp only at hSw
      go_simp
      try with_reducible rfl
    simp only [Act.put, List.setIfInBounds_toArray, List.set_cons_zero, List.set_cons_succ]
    refine wpAnyH_take (i := 7) (oi := ⟨some 14, Op.binOp BinOp.add 3 (Operand.tmp 13) (Operand.const (Value.int IntKind.i64 1)) 3, 3, _, _, none⟩) (v := ?v7) rfl (by kernel_rfl) (by kernel_rfl) (by kernel_rfl) (fun _ _ _ h => h) (Or.inl ⟨by rfl, ?hy7⟩) (by assumption) ?r7
    case hy7 =>
      intro w hSw
      try dsimp only at hSw
      go_simp
      try with_reducible rfl
    simp only [Act.put, List.setIfInBounds_toArray, List.set_cons_zero, List.set_cons_succ]
    refine wpAnyH_take (i := 8) (oi := ⟨some 15, Op.fieldAddr 65 (Operand.tmp 4) 3, 0, _, _, none⟩) (v := ?v8) rfl (by kernel_rfl) (by kernel_rfl) (by kernel_rfl) (fun _ _ _ h => h) (Or.inl ⟨by rfl, ?hy8⟩) (by assumption) ?r8
    case hy8 =>
      intro w hSw
      try dsimp only at hSw
      go_simp
      try with_reducible rfl
    simp only [Act.put, List.setIfInBounds_toArray, List.set_cons_zero, List.set_cons_succ]
    refine wpAnyH_take (i := 9) (oi := ⟨some 16, Op.load 9 (Operand.tmp 15), 9, _, _, none⟩) (v := ?v9) rfl (by kernel_rfl) (by kernel_rfl) (by kernel_rfl) (fun _ _ _ h => h) (Or.inl ⟨by rfl, ?hy9⟩) (by assumption) ?r9
    case hy9 =>
      intro w hSw
      try dsimp only at hSw
      go_simp
      try with_reducible rfl
    simp only [Act.put, List.setIfInBounds_toArray, List.set_cons_zero, List.set_cons_succ]
    refine wpAnyH_take (i := 10) (oi := ⟨some 17, Op.fieldAddr 65 (Operand.tmp 4) 4, 0, _, _, none⟩) (v := ?v10) rfl (by kernel_rfl) (by kernel_rfl) (by kernel_rfl) (fun _ _ _ h => h) (Or.inl ⟨by rfl, ?hy10⟩) (by assumption) ?r10
    case hy10 =>
      intro w hSw
      try dsimp only at hSw
      go_simp
      try with_reducible rfl
    simp only [Act.put, List.setIfInBounds_toArray, List.set_cons_zero, List.set_cons_succ]
    refine wpAnyH_take (i := 11) (oi := ⟨some 18, Op.load 26 (Operand.tmp 17), 26, _, _, none⟩) (v := ?v11) rfl (by kernel_rfl) (by kernel_rfl) (by kernel_rfl) (fun _ _ _ h => h) (Or.inl ⟨by rfl, ?hy11⟩) (by assumption) ?r11
    case hy11 =>
      intro w hSw
      try dsimp only at hSw
      go_simp
      try with_reducible rfl
    simp only [Act.put, List.setIfInBounds_toArray, List.set_cons_zero, List.set_cons_succ]
    refine wpAnyH_take (i := 12) (oi := ⟨some 19, Op.convert 26 9 (Operand.tmp 18), 9, _, _, none⟩) (v := ?v12) rfl (by kernel_rfl) (by kernel_rfl) (by kernel_rfl) (fun _ _ _ h => h) (Or.inl ⟨by rfl, ?hy12⟩) (by assumption) ?r12
    case hy12 =>
      intro w hSw
      try dsimp only at hSw
      go_simp
      try with_reducible rfl
    simp only [Act.put, List.setIfInBounds_toArray, List.set_cons_zero, List.set_cons_succ]
    refine wpAnyH_take (i := 13) (oi := ⟨some 20, Op.fieldAddr 65 (Operand.tmp 4) 5, 0, _, _, none⟩) (v := ?v13) rfl (by kernel_rfl) (by kernel_rfl) (by kernel_rfl) (fun _ _ _ h => h) (Or.inl ⟨by rfl, ?hy13⟩) (by assumption) ?r13
    case hy13 =>
      intro w hSw
      try dsimp only at hSw
      go_simp
      try with_reducible rfl
    simp only [Act.put, List.setIfInBounds_toArray, List.set_cons_zero, List.set_cons_succ]
    refine wpAnyH_take (i := 14) (oi := ⟨some 21, Op.load 2 (Operand.tmp 20), 2, _, _, none⟩) (v := ?v14) rfl (by kernel_rfl) (by kernel_rfl) (by kernel_rfl) (fun _ _ _ h => h) (Or.inl ⟨by rfl, ?hy14⟩) (by assumption) ?r14
    case hy14 =>
      intro w hSw
      try dsimp only at hSw
      go_simp
      try with_reducible rfl
    simp only [Act.put, List.setIfInBounds_toArray, List.set_cons_zero, List.set_cons_succ]
    refine wpAnyH_take (i := 15) (oi := ⟨some 22, Op.fieldAddr 65 (Operand.tmp 4) 6, 0, _, _, none⟩) (v := ?v15) rfl (by kernel_rfl) (by kernel_rfl) (by kernel_rfl) (fun _ _ _ h => h) (Or.inl ⟨by rfl, ?hy15⟩) (by assumption) ?r15
    case hy15 =>
      intro w hSw
      try dsimp only at hSw
      go_simp
      try with_reducible rfl
    simp only [Act.put, List.setIfInBounds_toArray, List.set_cons_zero, List.set_cons_succ]
    refine wpAnyH_take (i := 16) (oi := ⟨some 23, Op.load 9 (Operand.tmp 22), 9, _, _, none⟩) (v := ?v16) rfl (by kernel_rfl) (by kernel_rfl) (by kernel_rfl) (fun _ _ _ h => h) (Or.inl ⟨by rfl, ?hy16⟩) (by assumption) ?r16
    case hy16 =>
      intro w hSw
      try dsimp only at hSw
      go_simp
      try with_reducible rfl
    simp only [Act.put, List.setIfInBounds_toArray, List.set_cons_zero, List.set_cons_succ]
    refine wpAnyH_take (i := 17) (oi := ⟨some 24, Op.fieldAddr 67 (Operand.tmp 5) 1, 0, _, _, none⟩) (v := ?v17) rfl (by kernel_rfl) (by kernel_rfl) (by kernel_rfl) (fun _ _ _ h => h) (Or.inl ⟨by rfl, ?hy17⟩) (by assumption) ?r17
    case hy17 =>
      intro w hSw
      try dsimp only at hSw
      go_simp
      try with_reducible rfl
    simp only [Act.put, List.setIfInBounds_toArray, List.set_cons_zero, List.set_cons_succ]
    refine wpAnyH_take (i := 18) (oi := ⟨some 25, Op.load 2 (Operand.tmp 24), 2, _, _, none⟩) (v := ?v18) rfl (by kernel_rfl) (by kernel_rfl) (by kernel_rfl) (fun _ _ _ h => h) (Or.inl ⟨by rfl, ?hy18⟩) (by assumption) ?r18
    case hy18 =>
      intro w hSw
      try dsimp only at hSw
      go_simp
      try with_reducible rfl
    simp only [Act.put, List.setIfInBounds_toArray, List.set_cons_zero, List.set_cons_succ]
    refine wpAnyH_take (i := 19) (oi := ⟨some 26, Op.fieldAddr 67 (Operand.tmp 5) 2, 0, _, _, none⟩) (v := ?v19) rfl (by kernel_rfl) (by kernel_rfl) (by kernel_rfl) (fun _ _ _ h => h) (Or.inl ⟨by rfl, ?hy19⟩) (by assumption) ?r19
    case hy19 =>
      intro w hSw
      try dsimp only at hSw
      go_simp
      try with_reducible rfl
    simp only [Act.put, List.setIfInBounds_toArray, List.set_cons_zero, List.set_cons_succ]
    refine wpAnyH_take (i := 20) (oi := ⟨some 27, Op.load 2 (Operand.tmp 26), 2, _, _, none⟩) (v := ?v20) rfl (by kernel_rfl) (by kernel_rfl) (by kernel_rfl) (fun _ _ _ h => h) (Or.inl ⟨by rfl, ?hy20⟩) (by assumption) ?r20
    case hy20 =>
      intro w hSw
      try dsimp only at hSw
      go_simp
      try with_reducible rfl
    simp only [Act.put, List.setIfInBounds_toArray, List.set_cons_zero, List.set_cons_succ]
    refine wpAnyH_take (i := 21) (oi := ⟨some 28, Op.fieldAddr 65 (Operand.tmp 4) 2, 0, _, _, none⟩) (v := ?v21) rfl (by kernel_rfl) (by kernel_rfl) (by kernel_rfl) (fun _ _ _ h => h) (Or.inl ⟨by rfl, ?hy21⟩) (by assumption) ?r21
    case hy21 =>
      intro w hSw
      try dsimp only at hSw
      go_simp
      try with_reducible rfl
    simp only [Act.put, List.setIfInBounds_toArray, List.set_cons_zero, List.set_cons_succ]
    refine wpAnyH_take (i := 22) (oi := ⟨some 29, Op.load 50 (Operand.tmp 28), 50, _, _, none⟩) (v := ?v22) rfl (by kernel_rfl) (by kernel_rfl) (by kernel_rfl) (fun _ _ _ h => h) (Or.inl ⟨by rfl, ?hy22⟩) (by assumption) ?r22
    case hy22 =>
      intro w hSw
      try dsimp only at hSw
      go_simp
      try with_reducible rfl
    simp only [Act.put, List.setIfInBounds_toArray, List.set_cons_zero, List.set_cons_succ]
    refine wpAnyH_take (i := 23) (oi := ⟨some 30, Op.move (Operand.tmp 0), 32, _, _, none⟩) (v := ?v23) rfl (by kernel_rfl) (by kernel_rfl) (by kernel_rfl) (fun _ _ _ h => h) (Or.inl ⟨by rfl, ?hy23⟩) (by assumption) ?r23
    case hy23 =>
      intro w hSw
      try dsimp only at hSw
      go_simp
      try with_reducible rfl
    simp only [Act.put, List.setIfInBounds_toArray, List.set_cons_zero, List.set_cons_succ]
    refine wpAnyH_take (i := 24) (oi := ⟨some 31, Op.nilCheck (Operand.tmp 30), 0, _, _, none⟩) (v := ?v24) rfl (by kernel_rfl) (by kernel_rfl) (by kernel_rfl) (fun _ _ _ h => h) (Or.inl ⟨by rfl, ?hy24⟩) (by assumption) ?r24
    case hy24 =>
      intro w hSw
      try dsimp only at hSw
      go_simp
      try with_reducible rfl
    simp only [Act.put, List.setIfInBounds_toArray, List.set_cons_zero, List.set_cons_succ]
    refine wpAnyH_take (i := 25) (oi := ⟨some 32, Op.fieldAddr 59 (Operand.tmp 31) 2, 0, _, _, none⟩) (v := ?v25) rfl (by kernel_rfl) (by kernel_rfl) (by kernel_rfl) (fun _ _ _ h => h) (Or.inl ⟨by rfl, ?hy25⟩) (by assumption) ?r25
    case hy25 =>
      intro w hSw
      try dsimp only at hSw
      go_simp
      try with_reducible rfl
    simp only [Act.put, List.setIfInBounds_toArray, List.set_cons_zero, List.set_cons_succ]
    refine wpAnyH_take (i := 26) (oi := ⟨some 33, Op.fieldAddr 56 (Operand.tmp 32) 0, 0, _, _, none⟩) (v := ?v26) rfl (by kernel_rfl) (by kernel_rfl) (by kernel_rfl) (fun _ _ _ h => h) (Or.inl ⟨by rfl, ?hy26⟩) (by assumption) ?r26
    case hy26 =>
      intro w hSw
      try dsimp only at hSw
      go_simp
      try with_reducible rfl
    simp only [Act.put, List.setIfInBounds_toArray, List.set_cons_zero, List.set_cons_succ]
    refine wpAnyH_take (i := 27) (oi := ⟨some 34, Op.load 50 (Operand.tmp 33), 50, _, _, none⟩) (v := ?v27) rfl (by kernel_rfl) (by kernel_rfl) (by kernel_rfl) (fun _ _ _ h => h) (Or.inl ⟨by rfl, ?hy27⟩) (by assumption) ?r27
    case hy27 =>
      intro w hSw
      try dsimp only at hSw
      go_simp
      try with_reducible rfl
    simp only [Act.put, List.setIfInBounds_toArray, List.set_cons_zero, List.set_cons_succ]
    refine wpAnyH_take (i := 31) (oi := ⟨some 38, Op.fieldAddr 65 (Operand.tmp 4) 7, 0, _, _, none⟩) (v := ?v31) rfl (by kernel_rfl) (by kernel_rfl) (by kernel_rfl) (fun _ _ _ h => h) (Or.inl ⟨by rfl, ?hy31⟩) (by assumption) ?r31
    case hy31 =>
      intro w hSw
      try dsimp only at hSw
      go_simp
      try with_reducible rfl
    simp only [Act.put, List.setIfInBounds_toArray, List.set_cons_zero, List.set_cons_succ]
    refine wpAnyH_take (i := 32) (oi := ⟨some 39, Op.load 4 (Operand.tmp 38), 4, _, _, none⟩) (v := ?v32) rfl (by kernel_rfl) (by kernel_rfl) (by kernel_rfl) (fun _ _ _ h => h) (Or.inl ⟨by rfl, ?hy32⟩) (by assumption) ?r32
    case hy32 =>
      intro w hSw
      try dsimp only at hSw
      go_simp
      try with_reducible rfl
    simp only [Act.put, List.setIfInBounds_toArray, List.set_cons_zero, List.set_cons_succ]
    refine wpAnyH_take (i := 33) (oi := ⟨some 40, Op.unOp UnOp.not 4 (Operand.tmp 39), 4, _, _, none⟩) (v := ?v33) rfl (by kernel_rfl) (by kernel_rfl) (by kernel_rfl) (fun _ _ _ h => h) (Or.inl ⟨by rfl, ?hy33⟩) (by assumption) ?r33
    case hy33 =>
      intro w hSw
      try dsimp only at hSw
      go_simp
      try with_reducible rfl
    simp only [Act.put, List.setIfInBounds_toArray, List.set_cons_zero, List.set_cons_succ]
    refine wpAnyH_ready (rs := [28]) (by kernel_rfl) (by simp) ?_
    refine AllReadyH.cons rfl (fun K hK => ?_) AllReadyH.nil
    go_simp
    refine (sub_any 0 0 0 0 _ (by omega) (by omega) (by omega) (by omega) (by omega) (by omega) (by omega) (by omega)).mono ?_
    rintro e w1 ⟨d, rfl, hd, hb1⟩
    obtain rfl : d = 0 := by rw [hd]; rfl
    clear hd
    show K _ _
    refine hK.out _ _ (HMK.out _ ((Below.refl _ _).drew.trans hb1)) (fun hHeld2 => ?_)
    clear hK K hHeld
    try simp only [Act.put, List.setIfInBounds_toArray, List.set_cons_zero, List.set_cons_succ]
    refine wpAnyH_take (i := 29) (oi := ⟨some 36, Op.binOp BinOp.quo 51 (Operand.tmp 35) (Operand.const (Value.int IntKind.i64 60000000000)) 51, 51, _, _, none⟩) (v := ?v29) rfl (by kernel_rfl) (by kernel_rfl) (by kernel_rfl) (fun _ _ _ h => h) (Or.inl ⟨by rfl, ?hy29⟩) (by assumption) ?r29
    case hy29 =>
      intro w hSw
      try dsimp only at hSw
      go_simp
      try with_reducible rfl
    simp only [Act.put, List.setIfInBounds_toArray, List.set_cons_zero, List.set_cons_succ]
    refine wpAnyH_take (i := 30) (oi := ⟨some 37, Op.call { callee := Callee.builtin Builtin.max, args := #[Operand.const (Value.int IntKind.i64 0), Operand.tmp 36], argTypes := #[2, 2] }, 2, _, _, none⟩) (v := ?v30) rfl (by kernel_rfl) (by kernel_rfl) (by kernel_rfl) (fun _ _ _ h => h) (Or.inl ⟨by rfl, ?hy30⟩) (by assumption) ?r30
    case hy30 =>
      intro w hSw
      try dsimp only at hSw
      go_simp
      try with_reducible rfl
    simp only [Act.put, List.setIfInBounds_toArray, List.set_cons_zero, List.set_cons_succ]
    refine wpAnyH_take (i := 34) (oi := ⟨some 41, Op.move (Operand.tmp 40), 4, _, _, none⟩) (v := ?v34) rfl (by kernel_rfl) (by kernel_rfl) (by kernel_rfl) (fun _ _ _ h => h) (Or.inl ⟨by rfl, ?hy34⟩) (by assumption) ?r34
    case hy34 =>
      intro w hSw
      try dsimp only at hSw
      go_simp
      try with_reducible rfl
    simp only [Act.put, List.setIfInBounds_toArray, List.set_cons_zero, List.set_cons_succ]
    refine wpAnyH_take (i := 35) (oi := ⟨some 42, Op.move (Operand.tmp 0), 32, _, _, some (34, false)⟩) (v := undef) rfl (by kernel_rfl) (by kernel_rfl) (by kernel_rfl) (fun _ _ _ h => h) (Or.inr ⟨by rfl, rfl⟩) (by assumption) ?r35
    simp only [Act.put, List.setIfInBounds_toArray, List.set_cons_zero, List.set_cons_succ]
    refine wpAnyH_take (i := 36) (oi := ⟨some 43, Op.nilCheck (Operand.tmp 42), 0, _, _, some (34, false)⟩) (v := undef) rfl (by kernel_rfl) (by kernel_rfl) (by kernel_rfl) (fun _ _ _ h => h) (Or.inr ⟨by rfl, rfl⟩) (by assumption) ?r36
    simp only [Act.put, List.setIfInBounds_toArray, List.set_cons_zero, List.set_cons_succ]
    refine wpAnyH_take (i := 37) (oi := ⟨some 44, Op.fieldAddr 59 (Operand.tmp 43) 2, 0, _, _, some (34, false)⟩) (v := undef) rfl (by kernel_rfl) (by kernel_rfl) (by kernel_rfl) (fun _ _ _ h => h) (Or.inr ⟨by rfl, rfl⟩) (by assumption) ?r37
    simp only [Act.put, List.setIfInBounds_toArray, List.set_cons_zero, List.set_cons_succ]
    refine wpAnyH_take (i := 38) (oi := ⟨some 45, Op.fieldAddr 56 (Operand.tmp 44) 5, 0, _, _, some (34, false)⟩) (v := undef) rfl (by kernel_rfl) (by kernel_rfl) (by kernel_rfl) (fun _ _ _ h => h) (Or.inr ⟨by rfl, rfl⟩) (by assumption) ?r38
    simp only [Act.put, List.setIfInBounds_toArray, List.set_cons_zero, List.set_cons_succ]
    refine wpAnyH_take (i := 39) (oi := ⟨some 46, Op.load 53 (Operand.tmp 45), 53, _, _, some (34, false)⟩) (v := undef) rfl (by kernel_rfl) (by kernel_rfl) (by kernel_rfl) (fun _ _ _ h => h) (Or.inr ⟨by rfl, rfl⟩) (by assumption) ?r39
    simp only [Act.put, List.setIfInBounds_toArray, List.set_cons_zero, List.set_cons_succ]
    refine wpAnyH_take (i := 40) (oi := ⟨some 47, Op.fieldAddr 65 (Operand.tmp 4) 3, 0, _, _, some (34, false)⟩) (v := undef) rfl (by kernel_rfl) (by kernel_rfl) (by kernel_rfl) (fun _ _ _ h => h) (Or.inr ⟨by rfl, rfl⟩) (by assumption) ?r40
    simp only [Act.put, List.setIfInBounds_toArray, List.set_cons_zero, List.set_cons_succ]
    refine wpAnyH_take (i := 41) (oi := ⟨some 48, Op.load 9 (Operand.tmp 47), 9, _, _, some (34, false)⟩) (v := undef) rfl (by kernel_rfl) (by kernel_rfl) (by kernel_rfl) (fun _ _ _ h => h) (Or.inr ⟨by rfl, rfl⟩) (by assumption) ?r41
    simp only [Act.put, List.setIfInBounds_toArray, List.set_cons_zero, List.set_cons_succ]
    refine wpAnyH_take (i := 42) (oi := ⟨some 49, Op.fieldAddr 65 (Operand.tmp 4) 5, 0, _, _, some (34, false)⟩) (v := undef) rfl (by kernel_rfl) (by kernel_rfl) (by kernel_rfl) (fun _ _ _ h => h) (Or.inr ⟨by rfl, rfl⟩) (by assumption) ?r42
    simp only [Act.put, List.setIfInBounds_toArray, List.set_cons_zero, List.set_cons_succ]
    refine wpAnyH_take (i := 43) (oi := ⟨some 50, Op.load 2 (Operand.tmp 49), 2, _, _, some (34, false)⟩) (v := undef) rfl (by kernel_rfl) (by kernel_rfl) (by kernel_rfl) (fun _ _ _ h => h) (Or.inr ⟨by rfl, rfl⟩) (by assumption) ?r43
    simp only [Act.put, List.setIfInBounds_toArray, List.set_cons_zero, List.set_cons_succ]
    refine wpAnyH_take (i := 44) (oi := ⟨some 51, Op.build 83 #[(0, Operand.tmp 48), (1, Operand.tmp 50)], 83, _, _, some (34, false)⟩) (v := undef) rfl (by kernel_rfl) (by kernel_rfl) (by kernel_rfl) (fun _ _ _ h => h) (Or.inr ⟨by rfl, rfl⟩) (by assumption) ?r44
    simp only [Act.put, List.setIfInBounds_toArray, List.set_cons_zero, List.set_cons_succ]
    refine wpAnyH_take (i := 45) (oi := ⟨some 52, Op.lookup 53 (Operand.tmp 46) (Operand.tmp 51) false, 4, _, _, some (34, false)⟩) (v := undef) rfl (by kernel_rfl) (by kernel_rfl) (by kernel_rfl) (fun _ _ _ h => h) (Or.inr ⟨by rfl, rfl⟩) (by assumption) ?r45
    simp only [Act.put, List.setIfInBounds_toArray, List.set_cons_zero, List.set_cons_succ]
    refine wpAnyH_take (i := 46) (oi := ⟨some 53, Op.unOp UnOp.not 4 (Operand.tmp 52), 4, _, _, some (34, false)⟩) (v := undef) rfl (by kernel_rfl) (by kernel_rfl) (by kernel_rfl) (fun _ _ _ h => h) (Or.inr ⟨by rfl, rfl⟩) (by assumption) ?r46
    simp only [Act.put, List.setIfInBounds_toArray, List.set_cons_zero, List.set_cons_succ]
    refine wpAnyH_take (i := 47) (oi := ⟨some 54, Op.pick (Operand.tmp 41) (Operand.const (Value.bool true)) (Operand.tmp 53), 4, _, _, none⟩) (v := ?v47) rfl (by kernel_rfl) (by kernel_rfl) (by kernel_rfl) (fun _ _ _ h => h) (Or.inl ⟨by rfl, ?hy47⟩) (by assumption) ?r47
    case hy47 =>
      intro w hSw
      try dsimp only at hSw
      go_simp
      try with_reducible rfl
    simp only [Act.put, List.setIfInBounds_toArray, List.set_cons_zero, List.set_cons_succ]
    refine wpAnyH_take (i := 48) (oi := ⟨some 55, Op.build 69 #[(0, Operand.tmp 7), (1, Operand.tmp 14), (2, Operand.tmp 16), (3, Operand.tmp 19), (4, Operand.tmp 21), (5, Operand.tmp 23), (6, Operand.tmp 25), (7, Operand.tmp 27), (8, Operand.tmp 37), (9, Operand.tmp 54)], 69, _, _, none⟩) (v := ?v48) rfl (by kernel_rfl) (by kernel_rfl) (by kernel_rfl) (fun _ _ _ h => h) (Or.inl ⟨by rfl, ?hy48⟩) (by assumption) ?r48
    case hy48 =>
      intro w hSw
      try dsimp only at hSw
      go_simp
      try with_reducible rfl
    simp only [Act.put, List.setIfInBounds_toArray, List.set_cons_zero, List.set_cons_succ]
    refine wpAnyH_ready (rs := [49]) (by kernel_rfl) (by simp) ?_
    refine AllReadyH.cons rfl (fun K hK => ?_) AllReadyH.nil
    go_simp
    refine hK.out _ _ (HMK.out _ (((Below.refl _ _).drew.trans hb1).alloc hb1.size _)) (fun hHeld3 => ?_)
    clear hK K hHeld2
    try simp only [Act.put, List.setIfInBounds_toArray, List.set_cons_zero, List.set_cons_succ]
    refine wpAnyH_take (i := 50) (oi := ⟨some 6, Op.assign (Operand.tmp 56), 70, _, _, none⟩) (v := ?v50) rfl (by kernel_rfl) (by kernel_rfl) (by kernel_rfl) (fun _ _ _ h => h) (Or.inl ⟨by rfl, ?hy50⟩) (by assumption) ?r50
    case hy50 =>
      intro w hSw
      try dsimp only at hSw
      go_simp
      try with_reducible rfl
    simp only [Act.put, List.setIfInBounds_toArray, List.set_cons_zero, List.set_cons_succ]
    refine wpAnyH_done (by kernel_rfl) ?_ _
    refine NoPanic.normal ?_
    go_wp2_with fail
    go_meet
    case rel => exact ⟨_, rfl, by have := hb1.size; have h2 : W.drew.heap.size = W.heap.size := rfl; omega, Blk.new _ _ _, ((Below.refl _ _).drew.trans hb1).alloc hb1.size _⟩
  case rest =>
    rename World => wx
    obtain ⟨p, rfl, hpw, hpB, hbx⟩ := hcut
    have hws := HWS.out
    have hbwx : Below w.heap.size w wx := HWB.out.trans (hbx.mono (by omega))
    have hE : Blk wx w.heap.size (evC team) 65 := Blk.below HEW.out hbx (by omega)
    have g0 : wx.cell? ⟨w.heap.size, 0, none⟩ = some (.int .i64 2) := hE.cell 0
    have g1 : wx.cell? ⟨w.heap.size, 1, none⟩ = some (.string ByteArray.empty) := hE.cell 1
    have g2 : wx.cell? ⟨w.heap.size, 2, none⟩ = some (.int .u64 0) := hE.cell 2
    have g3 : wx.cell? ⟨w.heap.size, 3, none⟩ = some (.int .i64 0) := hE.cell 3
    have g4 : wx.cell? ⟨w.heap.size, 4, none⟩ = some (.pointer none) := hE.cell 4
    have g5 : wx.cell? ⟨w.heap.size, 5, none⟩ = some (.string team) := hE.cell 5
    have g6 : wx.cell? ⟨w.heap.size, 6, none⟩ = some (.slice none 0 0) := hE.cell 6
    have g7 : wx.cell? ⟨w.heap.size, 7, none⟩ = some (.int .i64 0) := hE.cell 7
    have g8 : wx.cell? ⟨w.heap.size, 8, none⟩ = some (.string ByteArray.empty) := hE.cell 8
    have g9 : wx.cell? ⟨w.heap.size, 9, none⟩ = some (.bool false) := hE.cell 9
    have g10 : wx.cell? ⟨w.heap.size, 10, none⟩ = some (.int .i64 0) := hE.cell 10
    have g11 : wx.cell? ⟨w.heap.size, 11, none⟩ = some (.int .i64 0) := hE.cell 11
    have g12 : wx.cell? ⟨w.heap.size, 12, none⟩ = some (.slice none 0 0) := hE.cell 12
    have g13 : wx.cell? ⟨w.heap.size, 13, none⟩ = some (.slice none 0 0) := hE.cell 13
    have g14 : wx.cell? ⟨w.heap.size, 14, none⟩ = some (.int .i64 0) := hE.cell 14
    have g15 : wx.cell? ⟨w.heap.size, 15, none⟩ = some (.bool false) := hE.cell 15
    have hLx : Blk wx L (ledC nm dm sm (.slice sa T.length cs) (.slice qa Q.length qc)) 59 := Blk.below HLW.out hbx (by omega)
    have hj := judges_any wx L sm team (hLx.lt) (hLx.cell 11) ((hbwx.block sm hsl).trans hmp.out)
    unfold evC at hj
    clear hE hLx hws HMK hcv hwr l10 l2 l3 l4 l11 e2 e3 e4 e5 e6 e7 e8 e9 r1 r2 hW HEW HLW HWB HWS
    go_wp2_with fail
    refine hj.mono ?_
    rintro e wy ⟨rfl, hbj⟩
    clear hj g0 g1 g2 g3 g4 g5 g6 g7 g8 g9 g10 g11 g12 g13 g14 g15
    have hbwy : Below w.heap.size w wy := hbwx.trans (hbj.mono hbwx.size)
    have hp : Blk wy p (subC L ((n : Int) + 1) team) 69 := hpB.below hbj hpB.lt
    have hy := HH.out.frame (w' := wy) (fun k hk => hbwy.block k (HH.out.below k hk)) hbwy.size
    rw [← HN.out, ← HM.out] at hy
    obtain ⟨i0, hi, hz0, hz1, hz2⟩ := info_parts info70
    have hLy := hy.led
    have hLlt := hLy.lt
    have hLq : (Value.slice qa m qc).ownBlock ≠ some L := fun e => by
      obtain ⟨C, hC⟩ := owns_row hy.queue e
      exact hC.apart hy.led (by decide) rfl
    have hownq : ∀ o, (wy.alloc o).ownsRow 0 70 1 (.slice qa m qc) m ((Q.map (qel ps T)).map pv) := fun o => by
      have := hy.queue.alloc o
      rw [← HM.out] at this
      exact this
    have y12 : wy.cell? ⟨L, 12, none⟩ = some (.slice qa m qc) := hLy.cell 12
    have HY : Hid _ := hy
    have HP : Hid _ := hp
    clear hy hp hpB hbx hbj hbwx HH
    go_upto_region 4 with (at_builtin; refine wpList_append_lies _ rfl (.tmp 65) (.tmp 67) 52 rfl 0 70 i0 (.pointer none) 1 8 Try.underlying52 hi hz0 hz1 hz2 rfl (by omega) (.slice qa m qc) m ((Q.map (qel ps T)).map pv) rfl (hownq _) ⟨wy.heap.size, 0, none⟩ 1 1 [.pointer (some ⟨p, 0, none⟩)] rfl rfl (news_one _ _ (by simp) _ _) (by simp [Value.oneCell']) (by omega) (by unfold maxLen; omega) (by omega) (Nat.zero_le _) (wy.heap.size + 1) (by simp) ?_; intro g cap w2 hown2 hgr2 hat2 hlt2; have hL2 := (hgr2.block L (by simp; omega) (fun e => hLq e.symm)).trans (hLy.alloc _); have k12 : w2.cell? ⟨L, 12, none⟩ = some (.slice qa m qc) := Blk.cell hL2 12; have f12 := Blk.frozen hL2 12)
    have hgs := hgr2.size
    simp at hgs
    have hs3 : ∀ o, ((w2.setCell ⟨L, 12, none⟩ (.slice (some ⟨g, 0, none⟩) (m + 1) cap)).alloc o).ownsRow 0 70 1 (.slice sa n cs) n (ps.map ptrV) := fun o => by
      have hsb := HY.out.subs
      rw [← HN.out] at hsb
      refine owns_of_block hsb (fun k hk => ?_)
      obtain ⟨C, hC⟩ := owns_row hsb hk
      have hkl := hC.lt
      have hkL := hC.apart hLy (by decide)
      rw [Below.heap_alloc _ _ _ (by rw [World.size_setCell]; omega), Below.heap_setCell _ _ _ _ hkL, hgr2.block k (by simp; omega) (fun e => HY.out.apart k hk e.symm), Below.heap_alloc _ _ _ hkl]
    have k10 : w2.cell? ⟨L, 10, none⟩ = some (.slice sa n cs) := Blk.cell hL2 10
    have hLs : (Value.slice sa n cs).ownBlock ≠ some L := fun e => by
      obtain ⟨C, hC⟩ := owns_row HY.out.subs e
      exact hC.apart hLy (by decide) rfl
    have hL3 := Blk.set hL2 12 (.slice (some ⟨g, 0, none⟩) (m + 1) cap)
    have HO2 : Hid _ := hown2
    have HG2 : Hid _ := hgr2
    have HA2 : Hid _ := hat2
    clear hown2 hgr2 hat2 hownq y12 hL2
    have hw2l : L < w2.heap.size := by omega
    go_wp2_with (at_builtin; refine wpList_append_lies _ rfl (.tmp 77) (.tmp 79) 52 rfl 0 70 i0 (.pointer none) 1 8 Try.underlying52 hi hz0 hz1 hz2 rfl (by omega) (.slice sa n cs) n (ps.map ptrV) rfl (hs3 _) ⟨w2.heap.size, 0, none⟩ 1 1 [.pointer (some ⟨p, 0, none⟩)] rfl rfl (news_one _ _ (by simp) _ _) (by simp [Value.oneCell']) (by omega) (by unfold maxLen; omega) (by omega) (Nat.zero_le _) (w2.heap.size + 1) (by simp) ?_; intro g2 cap2 w4 hown4 hgr4 hat4 hlt4; have hL4 := (hgr4.block L (by simp; omega) (fun e => hLs e.symm)).trans (Blk.alloc hL3 _); have q10 : w4.cell? ⟨L, 10, none⟩ = some (.slice sa n cs) := Blk.cell hL4 10; have f10 := Blk.frozen hL4 10)
    have FIN := LedAt.submit HY.out (p := p) (team := team) (by rw [← HN.out]; exact HP.out) (g := g) (cap := cap) (by rw [← HM.out]; exact HO2.out) HG2.out HA2.out (g2 := g2) (cap2 := cap2) (by rw [← HN.out]; exact hown4) (by rw [← HM.out]; exact hgr4) hat4
    rw [← HN.out] at FIN
    have HF : Hid _ := FIN
    clear FIN
    go_end0
    refine ⟨rfl, _, ⟨dm, sm, es, ck, _, _, _, by rw [← HN.out]; exact HF.out.1⟩, ?_⟩
    obtain ⟨_, z1, z2, z3, z4, z5, z6, z7⟩ := HF.out
    refine ⟨z3.trans hbwy.os, z4.trans hbwy.tape, z5.trans hbwy.output, ?_, ?_, ?_⟩
    · have := hbwy.size
      rw [World.size_setCell]
      omega
    · intro k hk hF
      rw [z1 k (Nat.lt_of_lt_of_le hk hbwy.size) hF, hbwy.block k hk]
    · intro k hk
      have hsz := hbwy.size
      rcases hk with h1 | rfl | rfl | rfl
      · exact Or.inl h1
      · exact Or.inr hpw
      · rcases z6 with h1 | h1
        · exact Or.inl h1
        · exact Or.inr (by omega)
      · rcases z7 with h1 | h1
        · exact Or.inl h1
        · exact Or.inr (by omega)

theorem zzSubmit_any (w : World) (F : Nat → Prop) (L : Nat) (nm : ByteArray) (D T : List ByteArray) (Q : List Nat) (team : ByteArray) (h : IsLed w F L nm D T Q) (hT : T.length ≤ 4096) (hQ : Q.length ≤ 4096) :
    Calls Try.prog 18 #[.pointer (some ⟨L, 0, none⟩), .string team] w (LedPost w F L nm D (T ++ [team]) (Q ++ [T.length])) := by
  have hs := submit_any w F L nm D T Q team h hT hQ
  unfold evC recC at hs
  go_enter Try.func18, Try.ntmps18
  go_wp2_with fail
  refine hs.mono ?_
  rintro e w1 ⟨rfl, hp⟩
  go_wp2
  go_end0
  exact ⟨rfl, hp⟩
end Go.Proofs.Qxb6616853a
