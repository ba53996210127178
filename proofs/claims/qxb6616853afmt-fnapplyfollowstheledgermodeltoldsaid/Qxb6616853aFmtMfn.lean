import Derived.Test.Qxb6616853aFmtMod
import Derived.Deep.RegionLaw
namespace Go.Proofs.Qxb6616853aFmt
open Go.RowKit
attribute [local go_sem ↓] Go.wp_at_zero Go.wp_at_succ

/-- A yes or no; only new blocks. -/
def YesPost (b : Bool) (w : World) (e : Ending) (w' : World) : Prop := ∃ r, e = .returned (.bool r) ∧ r = b ∧ Below w.heap.size w w'

theorem memS_take {D : List ByteArray} {s : ByteArray} {k : Nat} {x : ByteArray} (hx : D[k]? = some x) (h : ∀ y ∈ D.take k, y ≠ s) (hne : x ≠ s) : ∀ y ∈ D.take (k + 1), y ≠ s := by
  intro y hy
  rw [List.take_add_one, hx] at hy
  rcases List.mem_append.1 hy with hy | hy
  · exact h y hy
  · simp at hy
    subst hy
    exact hne

set_option maxHeartbeats 2000000 in
theorem hasStr_any (w : World) (v : Value) (D : List ByteArray) (s : ByteArray) (h : w.ownsRow 0 9 1 v D.length (D.map .string)) (hl : D.length ≤ 4096) :
    Calls Tryf.prog 15 #[v, .string s] w (YesPost (memB D s) w) := by
  obtain ⟨a, c, rfl⟩ := owns_form h
  obtain ⟨n, hn⟩ : ∃ n, n = D.length := ⟨_, rfl⟩
  have HN : Hid (n = D.length) := hn
  have hq : ∀ i x, D[i]? = some x → ∃ g, a = some ⟨g, 0, none⟩ ∧ w.cell? ⟨g, i, none⟩ = some (.string x) := fun i x hx => by
    have hi := (List.getElem?_eq_some_iff.1 hx).1
    rcases h.2 with ⟨_, hz⟩ | ⟨g, cap, cur, hv, _⟩
    · omega
    · cases hv
      refine ⟨g, rfl, ?_⟩
      rw [h.cellAt i (by omega), List.getElem?_map, hx]
      rfl
  rw [← hn] at hl ⊢
  clear hn h
  go_enter Tryf.func15, Tryf.ntmps15
  go_wp2
  go_loop [5] (fun i => ∃ k : Nat, k ≤ n ∧ i = .int .i64 k ∧ (∀ x ∈ D.take k, x ≠ s)) (fun i => n - (intOf i).toNat)
  case atStart => exact ⟨0, Nat.zero_le _, rfl, by simp⟩
  case round =>
    obtain ⟨k, hk, rfl, hno⟩ := hrel
    have HNO : Hid (∀ x ∈ D.take k, x ≠ s) := hno
    clear hno
    by_cases hlt : k < n
    · obtain ⟨x, hx⟩ : ∃ x, D[k]? = some x := ⟨_, List.getElem?_eq_getElem (by rw [← HN.out]; exact hlt)⟩
      obtain ⟨g, rfl, hc⟩ := hq k x hx
      have HX : Hid (D[k]? = some x) := hx
      clear hx hq
      cases ha : eqS x s
      · have ha1 : (x.toList == s.toList) = false := ha
        have HA : Hid (eqS x s = false) := ha
        clear ha
        go_wp2
        go_round
        case rel => exact ⟨k + 1, by omega, by go_num, memS_take HX.out HNO.out (eqS_false.1 HA.out)⟩
        case measure => simp [intOf]; omega
      · have ha1 : (x.toList == s.toList) = true := ha
        have HA : Hid (eqS x s = true) := ha
        clear ha
        go_wp2
        go_ret
        exact ⟨_, rfl, (memB_iff.2 (by rw [← eqS_iff.1 HA.out]; exact List.mem_of_getElem? HX.out)).symm, Below.refl _ _⟩
    · obtain rfl : k = n := by omega
      clear hq hlt hk
      go_wp2
      go_ret
      exact ⟨_, rfl, (Bool.eq_false_iff.2 (fun hm => HNO.out s (by rw [List.take_of_length_le (by rw [← HN.out]; omega)]; exact memB_iff.1 hm) rfl)).symm, Below.refl _ _⟩

theorem keyAt_mem {K : List (ByteArray × Int)} {i : Nat} (hi : i < K.length) : keyAt K i ∈ K := by
  unfold keyAt
  rw [List.getD_eq_getElem?_getD, List.getElem?_eq_getElem hi]
  exact List.getElem_mem hi
theorem keyAt_all {K : List (ByteArray × Int)} {a : ByteArray × Int} (h : ∀ i, i < K.length → keyAt K i ≠ a) : a ∉ K := fun hm => by
  obtain ⟨i, hi⟩ := List.getElem?_of_mem hm
  have hl := (List.getElem?_eq_some_iff.1 hi).1
  refine h i hl ?_
  unfold keyAt
  rw [List.getD_eq_getElem?_getD, hi]
  rfl

set_option maxHeartbeats 4000000 in
theorem hasKey_any (w : World) (v : Value) (K : List (ByteArray × Int)) (t : ByteArray) (z : Int) (h : w.ownsRow 0 68 2 v K.length (keysC K)) (hl : K.length ≤ 4096) :
    Calls Tryf.prog 13 #[v, .agg #[.string t, .int .i64 z]] w (YesPost (memK K t z) w) := by
  obtain ⟨a, c, rfl⟩ := owns_form h
  obtain ⟨n, hn⟩ : ∃ n, n = K.length := ⟨_, rfl⟩
  have HN : Hid (n = K.length) := hn
  obtain ⟨W, hW⟩ : ∃ W, W = w.alloc (.cells #[.string t, .int .i64 z] 68) := ⟨_, rfl⟩
  have hWb : Below w.heap.size w W := by rw [hW]; exact (Below.refl _ _).alloc (Nat.le_refl _) _
  have hE : Blk W w.heap.size #[.string t, .int .i64 z] 68 := by rw [hW]; exact Blk.new _ _ _
  have hq : ∀ i, i < n → ∃ g, a = some ⟨g, 0, none⟩ ∧ W.cell? ⟨g, i * 2, none⟩ = some (.string (keyAt K i).1) ∧ W.cell? ⟨g, i * 2 + 1, none⟩ = some (.int .i64 (keyAt K i).2) := fun i hi => by
    rcases h.2 with ⟨_, hz⟩ | ⟨g, cap, cur, hv, _⟩
    · omega
    · cases hv
      have hg := (h.lt g rfl).2
      refine ⟨g, rfl, ?_, ?_⟩
      · rw [hWb.cell (p := ⟨g, i * 2, none⟩) hg, h.cellAt (i * 2) (by omega)]
        exact rows_get (s := 2) (f := fun i => keyC (keyAt K i)) (p := 0) K.length (fun _ _ => rfl) (by omega) (by omega)
      · rw [hWb.cell (p := ⟨g, i * 2 + 1, none⟩) hg, h.cellAt (i * 2 + 1) (by omega)]
        exact rows_get (s := 2) (f := fun i => keyC (keyAt K i)) (p := 1) K.length (fun _ _ => rfl) (by omega) (by omega)
  have e0 := hE.cell 0
  have e1 := hE.cell 1
  have HWB : Hid (Below w.heap.size w W) := hWb
  have HW : Hid (W = w.alloc (.cells #[.string t, .int .i64 z] 68)) := hW
  rw [← hn] at hl ⊢
  clear hn h hWb hW hE
  go_enter Tryf.func13, Tryf.ntmps13
  go_wp2
  rw [← HW.out]
  clear HW
  go_loopw [5] (fun i wr => ∃ k : Nat, k ≤ n ∧ i = .int .i64 k ∧ (∀ i, i < k → keyAt K i ≠ (t, z)) ∧ Quiet W wr) (fun i _ => n - (intOf i).toNat)
  case atStart => exact ⟨0, Nat.zero_le _, rfl, by simp, Quiet.refl _⟩
  case round =>
    obtain ⟨k, hk, rfl, hno, hqt⟩ := hrel
    have HNO : Hid (∀ i, i < k → keyAt K i ≠ (t, z)) := hno
    have HQT : Hid (Quiet W wr) := hqt
    clear hno
    by_cases hlt : k < n
    · obtain ⟨g, rfl, hc1, hc2⟩ := hq k hlt
      rw [← hqt.cell] at hc1 hc2 e0 e1
      clear hq hqt
      simp at e0 e1
      cases ha : eqS (keyAt K k).1 t
      · have ha1 : ((keyAt K k).1.toList == t.toList) = false := ha
        have HA : Hid (eqS (keyAt K k).1 t = false) := ha
        clear ha
        go_wp2_with fail
        go_region
        go_wp2
        go_round
        case rel => exact ⟨k + 1, by omega, by go_num, fun i hi => by
          by_cases hik : i = k
          · subst hik
            intro e
            exact eqS_false.1 HA.out (by rw [e])
          · exact HNO.out i (by omega), HQT.out.trans ⟨rfl, rfl, rfl, rfl⟩⟩
        case measure => simp [intOf]; omega
      · have ha1 : ((keyAt K k).1.toList == t.toList) = true := ha
        have HA : Hid (eqS (keyAt K k).1 t = true) := ha
        clear ha
        cases hz : ((keyAt K k).2 == z)
        · go_wp2_with fail
          go_region
          go_wp2
          go_round
          case rel => exact ⟨k + 1, by omega, by go_num, fun i hi => by
            by_cases hik : i = k
            · subst hik
              intro e
              simp [e] at hz
            · exact HNO.out i (by omega), HQT.out.trans ⟨rfl, rfl, rfl, rfl⟩⟩
          case measure => simp [intOf]; omega
        · go_wp2_with fail
          go_region
          go_wp2
          go_ret
          refine ⟨_, rfl, (memK_iff.2 ?_).symm, HWB.out.trans ((HQT.out.trans (c := wr.drew) ⟨rfl, rfl, rfl, rfl⟩).below _)⟩
          have : keyAt K k = (t, z) := Prod.ext (eqS_iff.1 HA.out) (by simpa using hz)
          rw [← this]
          exact keyAt_mem (by rw [← HN.out]; exact hlt)
    · obtain rfl : k = n := by omega
      clear hq hlt hk
      go_wp2
      go_ret
      refine ⟨_, rfl, ?_, HWB.out.trans (HQT.out.below _)⟩
      have : memK K t z = false := by
        rw [Bool.eq_false_iff]
        exact fun e => keyAt_all (fun i hi => HNO.out i (by rw [HN.out]; exact hi)) (memK_iff.1 e)
      rw [this]

/-- A number; nothing has turned. -/
def NumPost (d : Int) (w : World) (e : Ending) (w' : World) : Prop := ∃ r, e = .returned (.int .i64 r) ∧ r = d ∧ w' = w

set_option maxHeartbeats 1000000 in
theorem satSub_any (w : World) (a b : Int) (ha : I64 a) (hb : I64 b) : Calls Tryf.prog 14 #[.int .i64 a, .int .i64 b] w (NumPost (clamp (a - b)) w) := by
  unfold I64 at ha hb
  obtain ⟨ha0, ha1⟩ := ha
  obtain ⟨hb0, hb1⟩ := hb
  rcases Int.lt_trichotomy b 0 with h1 | h1 | h1
  all_goals go_enter Tryf.func14, Tryf.ntmps14
  all_goals go_wp2
  all_goals go_ret
  all_goals refine ⟨_, rfl, ?_, rfl⟩
  all_goals unfold clamp
  all_goals (try simp only [wrap64] at *)
  all_goals (repeat' split)
  all_goals omega

/-- The model's fresh run. -/
def MR.rerun (m : MR) : MR := ⟨m.name, 0, 0, 0, false, true, 0, fun f => if f = 0 then m.k 0 else 0, fun f => if f = 0 then m.c 0 else []⟩

/-- What is behind a step that writes the model. -/
def ModPost (w : World) (F : Nat → Prop) (v : Value) (n : Nat) (M : Nat → MR) (e : Ending) (w' : World) : Prop :=
  e = .returned (.tuple #[]) ∧ ∃ x', ModAt w' v n M x' ∧ Framed w F w' (foot v n x')

theorem grown_refl (w : World) (r : Option Nat) : w.grownBy w r := ⟨rfl, rfl, rfl, Nat.le_refl _, fun _ _ _ => rfl⟩

/-- A slice of ledger i becomes nil. -/
theorem ModAt.nils {w : World} {g n cap : Nat} {M : Nat → MR} {x : Nat → Nat → Value} (h : ModAt w (.slice (some ⟨g, 0, none⟩) n cap) n M x) {i f : Nat} (hi : i < n) (hf : f < 6) :
    ∃ x', ModAt (w.setCell ⟨g, i * 13 + fpos f, none⟩ (.slice none 0 0)) (.slice (some ⟨g, 0, none⟩) n cap) n (put1 M i { M i with k := put1 (M i).k f 0, c := put1 (M i).c f [] }) x' ∧
      Framed w (foot (.slice (some ⟨g, 0, none⟩) n cap) n x) (w.setCell ⟨g, i * 13 + fpos f, none⟩ (.slice none 0 0)) (foot (.slice (some ⟨g, 0, none⟩) n cap) n x') := by
  have := h.turn hi hf (w' := w) (u := .slice none 0 0) (k' := 0) (c' := []) (grown_refl _ _) (World.ownsRow_nil _ _ _ _) (fun b hb => by simp [Value.ownBlock] at hb)
  exact ⟨_, this.1, this.2⟩

set_option maxHeartbeats 2000000 in
theorem freshRun_any (w : World) (g n cap i : Nat) (M : Nat → MR) (x : Nat → Nat → Value) (h : ModAt w (.slice (some ⟨g, 0, none⟩) n cap) n M x) (hi : i < n) :
    Calls Tryf.prog 16 #[.pointer (some ⟨g, i * 13, none⟩)] w (ModPost w (foot (.slice (some ⟨g, 0, none⟩) n cap) n x) (.slice (some ⟨g, 0, none⟩) n cap) n (put1 M i (M i).rerun)) := by
  have c2 : w.cell? ⟨g, i * 13 + 2, none⟩ = some _ := h.cell hi (p := 2) (by omega)
  have f2 := h.frozen (i * 13 + 2)
  have c3 : w.cell? ⟨g, i * 13 + 3, none⟩ = some _ := h.cell hi (p := 3) (by omega)
  have f3 := h.frozen (i * 13 + 3)
  have c4 : w.cell? ⟨g, i * 13 + 4, none⟩ = some _ := h.cell hi (p := 4) (by omega)
  have f4 := h.frozen (i * 13 + 4)
  have c5 : w.cell? ⟨g, i * 13 + 5, none⟩ = some _ := h.cell hi (p := 5) (by omega)
  have f5 := h.frozen (i * 13 + 5)
  have c6 : w.cell? ⟨g, i * 13 + 6, none⟩ = some _ := h.cell hi (p := 6) (by omega)
  have f6 := h.frozen (i * 13 + 6)
  have c7 : w.cell? ⟨g, i * 13 + 7, none⟩ = some _ := h.cell hi (p := 7) (by omega)
  have f7 := h.frozen (i * 13 + 7)
  have c8 : w.cell? ⟨g, i * 13 + 8, none⟩ = some _ := h.cell hi (p := 8) (by omega)
  have f8 := h.frozen (i * 13 + 8)
  have c9 : w.cell? ⟨g, i * 13 + 9, none⟩ = some _ := h.cell hi (p := 9) (by omega)
  have f9 := h.frozen (i * 13 + 9)
  have c10 : w.cell? ⟨g, i * 13 + 10, none⟩ = some _ := h.cell hi (p := 10) (by omega)
  have f10 := h.frozen (i * 13 + 10)
  have c11 : w.cell? ⟨g, i * 13 + 11, none⟩ = some _ := h.cell hi (p := 11) (by omega)
  have f11 := h.frozen (i * 13 + 11)
  have c12 : w.cell? ⟨g, i * 13 + 12, none⟩ = some _ := h.cell hi (p := 12) (by omega)
  have f12 := h.frozen (i * 13 + 12)
  obtain ⟨m2, r2⟩ := h.store hi (p := 2) (u := .int .i64 0) (m' := { M i with st := 0 }) (by omega) rfl rfl rfl
  obtain ⟨m3, r3⟩ := m2.store hi (p := 3) (u := .int .i64 0) (m' := { (put1 M i { M i with st := 0 }) i with en := 0 }) (by omega) rfl rfl rfl
  have r3 := r2.trans r3
  obtain ⟨m4, r4⟩ := m3.store hi (p := 4) (u := .int .i64 0) (m' := { (put1 (put1 M i { M i with st := 0 }) i { (put1 M i { M i with st := 0 }) i with en := 0 }) i with fz := 0 }) (by omega) rfl rfl rfl
  have r4 := r3.trans r4
  obtain ⟨m5, r5⟩ := m4.store hi (p := 5) (u := .bool false) (m' := { (put1 (put1 (put1 M i { M i with st := 0 }) i { (put1 M i { M i with st := 0 }) i with en := 0 }) i { (put1 (put1 M i { M i with st := 0 }) i { (put1 M i { M i with st := 0 }) i with en := 0 }) i with fz := 0 }) i with fzs := false }) (by omega) rfl rfl rfl
  have r5 := r4.trans r5
  obtain ⟨m6, r6⟩ := m5.store hi (p := 6) (u := .bool true) (m' := { (put1 (put1 (put1 (put1 M i { M i with st := 0 }) i { (put1 M i { M i with st := 0 }) i with en := 0 }) i { (put1 (put1 M i { M i with st := 0 }) i { (put1 M i { M i with st := 0 }) i with en := 0 }) i with fz := 0 }) i { (put1 (put1 (put1 M i { M i with st := 0 }) i { (put1 M i { M i with st := 0 }) i with en := 0 }) i { (put1 (put1 M i { M i with st := 0 }) i { (put1 M i { M i with st := 0 }) i with en := 0 }) i with fz := 0 }) i with fzs := false }) i with fro := true }) (by omega) rfl rfl rfl
  have r6 := r5.trans r6
  obtain ⟨m7, r7⟩ := m6.store hi (p := 7) (u := .int .i64 0) (m' := { (put1 (put1 (put1 (put1 (put1 M i { M i with st := 0 }) i { (put1 M i { M i with st := 0 }) i with en := 0 }) i { (put1 (put1 M i { M i with st := 0 }) i { (put1 M i { M i with st := 0 }) i with en := 0 }) i with fz := 0 }) i { (put1 (put1 (put1 M i { M i with st := 0 }) i { (put1 M i { M i with st := 0 }) i with en := 0 }) i { (put1 (put1 M i { M i with st := 0 }) i { (put1 M i { M i with st := 0 }) i with en := 0 }) i with fz := 0 }) i with fzs := false }) i { (put1 (put1 (put1 (put1 M i { M i with st := 0 }) i { (put1 M i { M i with st := 0 }) i with en := 0 }) i { (put1 (put1 M i { M i with st := 0 }) i { (put1 M i { M i with st := 0 }) i with en := 0 }) i with fz := 0 }) i { (put1 (put1 (put1 M i { M i with st := 0 }) i { (put1 M i { M i with st := 0 }) i with en := 0 }) i { (put1 (put1 M i { M i with st := 0 }) i { (put1 M i { M i with st := 0 }) i with en := 0 }) i with fz := 0 }) i with fzs := false }) i with fro := true }) i with shown := 0 }) (by omega) rfl rfl rfl
  have r7 := r6.trans r7
  obtain ⟨x1, m8, r8⟩ := m7.nils hi (f := 1) (by omega)
  have r8 := r7.trans r8
  obtain ⟨x2, m9, r9⟩ := m8.nils hi (f := 2) (by omega)
  have r9 := r8.trans r9
  obtain ⟨x3, m10, r10⟩ := m9.nils hi (f := 3) (by omega)
  have r10 := r9.trans r10
  obtain ⟨x4, m11, r11⟩ := m10.nils hi (f := 4) (by omega)
  have r11 := r10.trans r11
  obtain ⟨x5, m12, r12⟩ := m11.nils hi (f := 5) (by omega)
  have r12 := r11.trans r12
  have FIN := m12.congr (M' := put1 M i (M i).rerun) (fun j _ => by
    by_cases hj : j = i
    · subst hj
      simp only [put1_same]
      refine ⟨fun _ => rfl, fun f hf => ?_, fun f hf => ?_⟩
      · rcases (show f = 0 ∨ f = 1 ∨ f = 2 ∨ f = 3 ∨ f = 4 ∨ f = 5 by omega) with rfl | rfl | rfl | rfl | rfl | rfl <;> rfl
      · rcases (show f = 0 ∨ f = 1 ∨ f = 2 ∨ f = 3 ∨ f = 4 ∨ f = 5 by omega) with rfl | rfl | rfl | rfl | rfl | rfl <;> rfl
    · simp only [put1_other _ _ hj]
      exact MR.Eq6.refl _)
  have HF : Hid _ := FIN
  have HR : Hid _ := r12
  clear FIN h m2 m3 m4 m5 m6 m7 m8 m9 m10 m11 m12 r2 r3 r4 r5 r6 r7 r8 r9 r10 r11 r12
  go_enter Tryf.func16, Tryf.ntmps16
  go_wp2
  go_end0
  exact ⟨rfl, _, HF.out, HR.out⟩
end Go.Proofs.Qxb6616853aFmt
