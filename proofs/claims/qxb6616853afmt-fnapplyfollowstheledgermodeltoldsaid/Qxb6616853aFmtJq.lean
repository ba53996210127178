import Derived.Test.Qxb6616853aFmtJl
namespace Go.Proofs.Qxb6616853aFmt
open Go.RowKit Go.Extern.Stop Go.Stop Go.Extern
attribute [local go_sem ↓] Go.wp_at_zero Go.wp_at_succ

/-- An event's cells. -/
def evC (e : PEv) (vt vn vm : Value) : Array Value :=
  #[.int .i64 e.kind, .string e.oly, .int .u64 (nsOf e.at_), .int .i64 (scOf e.at_), .pointer none, .string e.team, vt, .int .i64 e.task, .string e.comp, .bool e.force, .int .i64 e.sub, .int .i64 e.res, vn, vm, .int .i64 e.left, .bool e.frozen]

def QuedPost (Q : List Nat) (k : Nat) (w : World) (e : Ending) (w' : World) : Prop :=
  ∃ r : Nat, e = .returned (.tuple #[.int .i64 r, .bool (decide (Q[r]? = some k))]) ∧ Quiet w w' ∧ r ≤ Q.length ∧ (∀ t q, t < r → Q[t]? = some q → q < k) ∧ (∀ t q, r ≤ t → Q[t]? = some q → k ≤ q)

theorem ps_get {ps : List Nat} {i : Nat} (h : i < ps.length) : ps[i]? = some (ps.getD i 0) := by
  rw [List.getD_eq_getElem?_getD, List.getElem?_eq_getElem h]
  rfl

set_option maxHeartbeats 1000000 in
theorem queued_any (w : World) (F : Nat → Prop) (L : Nat) (m : PLed) (x : LM) (N k : Nat) (h : LedAt w F L m x) (hm : m.Ok N) (hN : N ≤ 4096) (hk : k < m.subs.length) :
    Calls Tryf.prog 57 #[.pointer (some ⟨L, 0, none⟩), .pointer (some ⟨x.ps.getD k 0, 0, none⟩)] w (QuedPost m.queue k w) := by
  obtain ⟨dm, sm, es, ck, es2, ck2, vs, vq, vr, ps⟩ := x
  obtain ⟨a, c, hvq⟩ := owns_form h.queue
  dsimp only at hvq ⊢
  subst hvq
  have hkp : k < ps.length := by rw [show ps.length = m.subs.length from h.len]; exact hk
  have c12 : w.cell? ⟨L, 12, none⟩ = some (.slice a m.queue.length c) := h.led.cell 12
  have c1 : w.cell? ⟨ps.getD k 0, 1, none⟩ = some (.int .i64 ((k : Int) + 1)) := (h.sub k _ (ps_get hkp)).2.cell 1
  have hS := search_any a c m.queue ps k w.drew (Nat.le_trans hm.queue hN) hm.sorted (fun i q hq => by
    have hql : q < ps.length := by rw [show ps.length = m.subs.length from h.len]; exact hm.qlt q (List.mem_of_getElem? hq)
    have hil := (List.getElem?_eq_some_iff.1 hq).1
    have c2 : w.cell? ⟨ps.getD q 0, 1, none⟩ = some (.int .i64 ((q : Int) + 1)) := (h.sub q _ (ps_get hql)).2.cell 1
    have hqo := h.queue
    rcases h.queue.2 with ⟨_, hn⟩ | ⟨g, cap, cur, hv, _⟩
    · omega
    · dsimp only at hv
      cases hv
      refine ⟨g, rfl, ?_, c2⟩
      show w.cell? ⟨g, i, none⟩ = _
      rw [hqo.cellAt i (by omega), List.getElem?_map, List.getElem?_map, hq]
      rfl)
  obtain ⟨n, hn⟩ : ∃ n, n = m.queue.length := ⟨_, rfl⟩
  rw [← hn] at c12 hS
  generalize ps.getD k 0 = p at c1 hS ⊢
  clear h hn
  go_enter Tryf.func57, Tryf.ntmps57
  go_upto_region 1 with fail
  go_region_with (go_at_call 62; refine hS.mono ?_; rintro e w1 ⟨r, rfl, rfl, h1, h2, h3⟩)
  all_goals (try go_wp2)
  all_goals go_ret2
  all_goals exact ⟨r, rfl, ⟨rfl, rfl, rfl, rfl⟩, h1, h2, h3⟩

/-- What comes back: an error where b, nil where not. -/
def RetErr (b : Bool) (v : Value) : Prop := if b then ∃ p, v = .iface 147 (.pointer (some p)) else v = .nilIface

def JudgePost (w : World) (F : Nat → Prop) (L : Nat) (m : PLed) (b : Bool) (e : Ending) (w' : World) : Prop :=
  ∃ v F', e = .returned v ∧ RetErr b v ∧ IsLed w' F' L m ∧ Framed w F w' F'

set_option maxHeartbeats 2000000 in
/-- A verdict that is refused. -/
theorem judge_refused (Fi : Interp) (w : World) (F : Nat → Prop) (L : Nat) (m : PLed) (N : Nat) (e : PEv) (vt vn vm : Value) (hF : Fi.answers w.tape) (h : IsLed w F L m) (hm : m.Ok N) (hN : N ≤ 4096) (hr : m.refuses e = true) :
    Calls Tryf.prog 45 #[.pointer (some ⟨L, 0, none⟩), .agg (evC e vt vn vm)] w (JudgePost w F L m true) := by
  obtain ⟨x, h⟩ := h
  have HH : Hid (LedAt w F L m x) := h
  obtain ⟨sa, cs, hvs⟩ := owns_form h.subs
  have hT : m.subs.length ≤ 4096 := Nat.le_trans hm.subs hN
  obtain ⟨n, hn⟩ : ∃ n, n = m.subs.length := ⟨_, rfl⟩
  have c10 : w.cell? ⟨L, 10, none⟩ = some (.slice sa n cs) := by
    have : w.cell? ⟨L, 10, none⟩ = some x.vs := h.led.cell 10
    rw [this, hvs, hn]
  have hL := h.led.lt
  have hr' : e.sub < 1 ∨ (n : Int) < e.sub := by
    unfold PLed.refuses at hr
    simp at hr
    omega
  rw [← hn] at hT
  clear h hvs hm hn hr
  obtain ⟨W, hW⟩ : ∃ W, W = w.alloc (.cells (evC e vt vn vm) 97) := ⟨_, rfl⟩
  have HW : Hid (W = w.alloc (.cells (evC e vt vn vm) 97)) := hW
  have hEW : Blk W w.heap.size (evC e vt vn vm) 97 := by rw [hW]; exact Blk.new _ _ _
  have hWb : Below w.heap.size w W := by rw [hW]; exact (Below.refl _ _).alloc (Nat.le_refl _) _
  have hFW : Fi.answers W.tape := by rw [hW]; exact hF
  have d10 : W.cell? ⟨L, 10, none⟩ = some (.slice sa n cs) := (hWb.cell (p := ⟨L, 10, none⟩) hL).trans c10
  have e10 : W.cell? ⟨w.heap.size, 10, none⟩ = some (.int .i64 e.sub) := hEW.cell 10
  have HWB : Hid _ := hWb
  clear hW hEW hWb c10 hF
  unfold evC at HW ⊢
  go_enter Tryf.func45, Tryf.ntmps45
  go_upto_region 1 with fail
  rw [← HW.out]
  clear HW
  have hE : Calls Tryf.prog 56 #[.string verdictFmt, .slice (some ⟨W.heap.size, 0, none⟩) 2 2] (W.alloc (.cells #[.iface 3 (.int .i64 e.sub), .iface 3 (.int .i64 n)] 20)).drew.drew (ErrPost (W.alloc (.cells #[.iface 3 (.int .i64 e.sub), .iface 3 (.int .i64 n)] 20)).drew.drew) := errorf_any Fi W.heap.size e.sub n _ hFW (by simp) (by simp)
  have HB : Hid (Below W.heap.size W (W.alloc (.cells #[.iface 3 (.int .i64 e.sub), .iface 3 (.int .i64 n)] 20)).drew.drew) := ((Below.refl W.heap.size W).alloc (Nat.le_refl _) _).drew.drew
  unfold verdictFmt at hE
  rcases hr' with hlt | hgt
  · go_region
    go_upto_region 2 with fail
    go_region_with (go_at_call 56; refine hE.mono ?_; rintro e1 w1 ⟨p, rfl, hb1⟩)
    all_goals (try go_wp2)
    all_goals go_ret
    all_goals (have hbw := HWB.out.trans ((HB.out.trans (hb1.mono HB.out.size)).mono HWB.out.size); exact ⟨_, F, rfl, ⟨p, rfl⟩, ⟨x, HH.out.frame (fun k hk => hbw.block k (HH.out.below k hk)) hbw.size⟩, Framed.ofBelow hbw (Nat.le_refl _)⟩)
  · have hge : ¬ e.sub < 1 := by omega
    go_region
    go_upto_region 2 with fail
    go_region_with (go_at_call 56; refine hE.mono ?_; rintro e1 w1 ⟨p, rfl, hb1⟩)
    all_goals (try go_wp2)
    all_goals go_ret
    all_goals (have hbw := HWB.out.trans ((HB.out.trans (hb1.mono HB.out.size)).mono HWB.out.size); exact ⟨_, F, rfl, ⟨p, rfl⟩, ⟨x, HH.out.frame (fun k hk => hbw.block k (HH.out.below k hk)) hbw.size⟩, Framed.ofBelow hbw (Nat.le_refl _)⟩)
end Go.Proofs.Qxb6616853aFmt
