import Derived.Test.Qxb6616853aFmtHub
import Derived.BigQuiet
import Derived.Deep.QuietTactic
namespace Go.Proofs.Qxb6616853aFmt
open Go.RowKit
attribute [local go_sem ↓] Go.wp_at_zero Go.wp_at_succ

/-! What the law reads of the hub. -/
def AccPost (v : Value) (w : World) (e : Ending) (w' : World) : Prop := e = .returned v ∧ Below w.heap.size w w'

theorem AccPost.quiet {v : Value} {w w' : World} (h : Quiet w w') : AccPost v w (.returned v) w' := ⟨rfl, h.below _⟩

theorem accName (w : World) (F : Nat → Prop) (L : Nat) (m : PLed) (h : IsLed w F L m) : Calls Tryf.prog 18 #[.pointer (some ⟨L, 0, none⟩)] w (AccPost (.string m.name) w) := by
  obtain ⟨x, h⟩ := h
  have c0 : w.cell? ⟨L, 0, none⟩ = some (.string m.name) := h.led.cell 0
  clear h
  go_enter Tryf.func18, Tryf.ntmps18
  go_wp2
  go_ret
  exact ⟨rfl, Below.refl _ _⟩

theorem clamp_id {x : Int} (h : I64 x) : clamp x = x := by
  unfold I64 at h
  unfold clamp
  rw [if_neg (by omega), if_neg (by omega)]

theorem accStarted (w : World) (F : Nat → Prop) (L : Nat) (m : PLed) (h : IsLed w F L m) (hr : I64 m.st) : Calls Tryf.prog 19 #[.pointer (some ⟨L, 0, none⟩)] w (AccPost (.int .i64 m.st) w) := by
  obtain ⟨x, h⟩ := h
  have c0 : w.cell? ⟨L, 2, none⟩ = some (.int .u64 (nsOf m.st)) := h.led.cell 2
  have c1 : w.cell? ⟨L, 3, none⟩ = some (.int .i64 (scOf m.st)) := h.led.cell 3
  have c2 : w.cell? ⟨L, 4, none⟩ = some (.pointer none) := h.led.cell 4
  have hsub := sub_any (nsOf m.st) (scOf m.st) 0 0 w (nsOf_pos _) (nsOf_lt _) (by omega) (by omega) (sc_lo hr.1) (sc_hi hr.2) (by omega) (by omega)
  unfold tm at hsub
  have HR : Hid _ := hr
  clear h hr
  go_enter Tryf.func19, Tryf.ntmps19
  go_wp2_with fail
  refine hsub.mono ?_
  rintro e w1 ⟨d, rfl, hd, hb⟩
  have hdm : d = m.st := by
    rw [hd, ns_sc]
    simp
    exact clamp_id HR.out
  subst hdm
  have HB : Hid _ := hb
  clear hb hd hsub
  go_wp2
  go_ret
  exact ⟨rfl, HB.out⟩

theorem accEnded (w : World) (F : Nat → Prop) (L : Nat) (m : PLed) (h : IsLed w F L m) (hr : I64 m.en) : Calls Tryf.prog 20 #[.pointer (some ⟨L, 0, none⟩)] w (AccPost (.int .i64 m.en) w) := by
  obtain ⟨x, h⟩ := h
  have c0 : w.cell? ⟨L, 5, none⟩ = some (.int .u64 (nsOf m.en)) := h.led.cell 5
  have c1 : w.cell? ⟨L, 6, none⟩ = some (.int .i64 (scOf m.en)) := h.led.cell 6
  have c2 : w.cell? ⟨L, 7, none⟩ = some (.pointer none) := h.led.cell 7
  have hsub := sub_any (nsOf m.en) (scOf m.en) 0 0 w (nsOf_pos _) (nsOf_lt _) (by omega) (by omega) (sc_lo hr.1) (sc_hi hr.2) (by omega) (by omega)
  unfold tm at hsub
  have HR : Hid _ := hr
  clear h hr
  go_enter Tryf.func20, Tryf.ntmps20
  go_wp2_with fail
  refine hsub.mono ?_
  rintro e w1 ⟨d, rfl, hd, hb⟩
  have hdm : d = m.en := by
    rw [hd, ns_sc]
    simp
    exact clamp_id HR.out
  subst hdm
  have HB : Hid _ := hb
  clear hb hd hsub
  go_wp2
  go_ret
  exact ⟨rfl, HB.out⟩

theorem accFreeze (w : World) (F : Nat → Prop) (L : Nat) (m : PLed) (h : IsLed w F L m) : Calls Tryf.prog 21 #[.pointer (some ⟨L, 0, none⟩)] w (AccPost (.tuple #[.int .i64 m.fz, .bool m.fzs]) w) := by
  obtain ⟨x, h⟩ := h
  have c0 : w.cell? ⟨L, 8, none⟩ = some (.int .i64 m.fz) := h.led.cell 8
  have c1 : w.cell? ⟨L, 9, none⟩ = some (.bool m.fzs) := h.led.cell 9
  clear h
  go_enter Tryf.func21, Tryf.ntmps21
  go_wp2
  try go_region
  try go_wp2
  go_ret2
  exact ⟨rfl, by first | exact Below.refl _ _ | exact (Below.refl _ _).drew⟩

theorem accFrozen (w : World) (F : Nat → Prop) (L : Nat) (m : PLed) (h : IsLed w F L m) : Calls Tryf.prog 22 #[.pointer (some ⟨L, 0, none⟩)] w (AccPost (.tuple #[.bool m.fro, .int .i64 m.shown]) w) := by
  obtain ⟨x, h⟩ := h
  have c0 : w.cell? ⟨L, 14, none⟩ = some (.bool m.fro) := h.led.cell 14
  have c1 : w.cell? ⟨L, 15, none⟩ = some (.int .i64 m.shown) := h.led.cell 15
  clear h
  go_enter Tryf.func22, Tryf.ntmps22
  go_wp2
  try go_region
  try go_wp2
  go_ret2
  exact ⟨rfl, by first | exact Below.refl _ _ | exact (Below.refl _ _).drew⟩

theorem accSubs (w : World) (F : Nat → Prop) (L : Nat) (m : PLed) (h : IsLed w F L m) : Calls Tryf.prog 23 #[.pointer (some ⟨L, 0, none⟩)] w (AccPost (.int .i64 m.subs.length) w) := by
  obtain ⟨x, h⟩ := h
  obtain ⟨a, c, hv⟩ := owns_form h.subs
  have c0 : w.cell? ⟨L, 10, none⟩ = some (.slice a m.subs.length c) := by rw [← hv]; exact h.led.cell 10
  clear h hv
  go_enter Tryf.func23, Tryf.ntmps23
  go_wp2
  go_ret
  exact ⟨rfl, Below.refl _ _⟩

theorem accQueue (w : World) (F : Nat → Prop) (L : Nat) (m : PLed) (h : IsLed w F L m) : Calls Tryf.prog 24 #[.pointer (some ⟨L, 0, none⟩)] w (AccPost (.int .i64 m.queue.length) w) := by
  obtain ⟨x, h⟩ := h
  obtain ⟨a, c, hv⟩ := owns_form h.queue
  have c0 : w.cell? ⟨L, 12, none⟩ = some (.slice a m.queue.length c) := by rw [← hv]; exact h.led.cell 12
  clear h hv
  go_enter Tryf.func24, Tryf.ntmps24
  go_wp2
  go_ret
  exact ⟨rfl, Below.refl _ _⟩

theorem accRecs (w : World) (F : Nat → Prop) (L : Nat) (m : PLed) (h : IsLed w F L m) : Calls Tryf.prog 25 #[.pointer (some ⟨L, 0, none⟩)] w (AccPost (.int .i64 m.recs.length) w) := by
  obtain ⟨x, h⟩ := h
  obtain ⟨a, c, hv⟩ := owns_form h.recs
  have c0 : w.cell? ⟨L, 13, none⟩ = some (.slice a m.recs.length c) := by rw [← hv]; exact h.led.cell 13
  clear h hv
  go_enter Tryf.func25, Tryf.ntmps25
  go_wp2
  go_ret
  exact ⟨rfl, Below.refl _ _⟩

theorem accDisq (w : World) (F : Nat → Prop) (L : Nat) (m : PLed) (h : IsLed w F L m) : Calls Tryf.prog 26 #[.pointer (some ⟨L, 0, none⟩)] w (AccPost (.int .i64 m.disq.length) w) := by
  obtain ⟨x, h⟩ := h
  have c0 : w.cell? ⟨L, 1, none⟩ = some (.map (some x.dm)) := h.led.cell 1
  have hc := h.set.count
  have hlen : ∀ ty, (Builtin.len_ #[101] ty #[.map (some x.dm)]).run Tryf.prog w = .ok (goInt m.disq.length) w := fun ty => by
    rw [← hc]
    simp [Builtin.len_, run_underlying Tryf.underlying101, MapKept.run_getObj_map h.dmap, goInt, Result.andThen]
  clear h hc
  go_enter Tryf.func26, Tryf.ntmps26
  go_wp2
  go_ret
  exact ⟨rfl, Below.refl _ _⟩

theorem accSolved (w : World) (F : Nat → Prop) (L : Nat) (m : PLed) (h : IsLed w F L m) : Calls Tryf.prog 27 #[.pointer (some ⟨L, 0, none⟩)] w (AccPost (.int .i64 m.solved.length) w) := by
  obtain ⟨x, h⟩ := h
  have c0 : w.cell? ⟨L, 11, none⟩ = some (.map (some x.sm)) := h.led.cell 11
  have hc := KMap.count h.sol
  have hlen : ∀ ty, (Builtin.len_ #[103] ty #[.map (some x.sm)]).run Tryf.prog w = .ok (goInt m.solved.length) w := fun ty => by
    rw [← hc]
    simp [Builtin.len_, run_underlying Tryf.underlying103, MapKept.run_getObj_map h.smap, goInt, Result.andThen]
  clear h hc
  go_enter Tryf.func27, Tryf.ntmps27
  go_wp2
  go_ret
  exact ⟨rfl, Below.refl _ _⟩

theorem flat_get {K : List (Nat × Int)} {ps : List Nat} {j p : Nat} {r : Nat × Int} (hj : K[j]? = some r) (hp : p < 2) : (K.flatMap (recV ps))[j * 2 + p]? = (recV ps r)[p]? := by
  have hjl := (List.getElem?_eq_some_iff.1 hj).1
  have e : K.flatMap (recV ps) = rows K.length (fun i => recV ps (K.getD i (0, 0))) := by
    unfold rows
    rw [List.flatMap_def, List.flatMap_def]
    congr 1
    apply List.ext_getElem?
    intro n
    rw [List.getElem?_map, List.getElem?_map]
    by_cases hn : n < K.length
    · rw [List.getElem?_range hn, List.getElem?_eq_getElem hn]
      simp [List.getD_eq_getElem?_getD, hn]
    · rw [List.getElem?_eq_none (by omega), List.getElem?_eq_none (by simp; omega)]
      rfl
  rw [e, rows_get (s := 2) (f := fun i => recV ps (K.getD i (0, 0))) K.length (fun _ _ => rfl) hjl hp, List.getD_eq_getElem?_getD, hj]
  rfl

theorem ps_at {ps : List Nat} {i : Nat} (h : i < ps.length) : ps[i]? = some (ps.getD i 0) := by rw [List.getD_eq_getElem?_getD, List.getElem?_eq_getElem h]; rfl

/-- Submission i. -/
def subT (i : Nat) (s : PSub) : Value := .tuple #[.int .i64 ((i : Int) + 1), .string s.team, .string s.tid, .int .i64 s.task, .string s.comp, .int .i64 s.off, .int .i64 s.size, .int .i64 s.mins, .bool s.cnt]

set_option maxHeartbeats 2000000 in
theorem accSub (w : World) (F : Nat → Prop) (L : Nat) (m : PLed) (i : Nat) (h : IsLed w F L m) (hi : i < m.subs.length) (hm : m.subs.length ≤ 4096) : Calls Tryf.prog 28 #[.pointer (some ⟨L, 0, none⟩), .int .i64 i] w (AccPost (subT i (subAt m.subs i)) w) := by
  obtain ⟨x, h⟩ := h
  have hp := ps_at (ps := x.ps) (i := i) (by rw [h.len]; exact hi)
  obtain ⟨g, cap, hv, _, _⟩ := h.subs.form (by omega)
  obtain ⟨n, hn⟩ : ∃ n, n = m.subs.length := ⟨_, rfl⟩
  have c0 : w.cell? ⟨L, 10, none⟩ = some (.slice (some ⟨g, 0, none⟩) n cap) := by rw [hn, ← hv]; exact h.led.cell 10
  have c1 : w.cell? ⟨g, i, none⟩ = some (.pointer (some ⟨x.ps.getD i 0, 0, none⟩)) := by
    have := h.subs
    rw [hv] at this
    rw [this.cellAt i (by omega), List.getElem?_map, hp]
    rfl
  have hB := (h.sub i _ hp).2
  generalize x.ps.getD i 0 = p at c1 hB
  generalize subAt m.subs i = s at hB ⊢
  have d1 : w.cell? ⟨p, 1, none⟩ = some (.int .i64 ((i : Int) + 1)) := hB.cell 1
  have d2 : w.cell? ⟨p, 2, none⟩ = some (.string s.team) := hB.cell 2
  have d3 : w.cell? ⟨p, 3, none⟩ = some (.string s.tid) := hB.cell 3
  have d4 : w.cell? ⟨p, 4, none⟩ = some (.int .i64 s.task) := hB.cell 4
  have d5 : w.cell? ⟨p, 5, none⟩ = some (.string s.comp) := hB.cell 5
  have d6 : w.cell? ⟨p, 6, none⟩ = some (.int .i64 s.off) := hB.cell 6
  have d7 : w.cell? ⟨p, 7, none⟩ = some (.int .i64 s.size) := hB.cell 7
  have d8 : w.cell? ⟨p, 8, none⟩ = some (.int .i64 s.mins) := hB.cell 8
  have d9 : w.cell? ⟨p, 9, none⟩ = some (.bool s.cnt) := hB.cell 9
  have hin : i < n := by omega
  rw [← hn] at hm
  clear h hp hB hv hn hi
  go_enter Tryf.func28, Tryf.ntmps28
  go_wp2
  go_quiet (fail)
  go_wp2
  refine bodyPost_ret (v := subT i s) (by simp [results, Tryf.results28, go_sem, subT]) rfl ⟨rfl, ?_⟩
  exact ⟨rfl, rfl, rfl, Nat.le_refl _, fun _ _ => rfl⟩

theorem accQid (w : World) (F : Nat → Prop) (L : Nat) (m : PLed) (j i : Nat) (h : IsLed w F L m) (hj : m.queue[j]? = some i) (hl : i < m.subs.length) (hm : m.queue.length ≤ 4096) : Calls Tryf.prog 29 #[.pointer (some ⟨L, 0, none⟩), .int .i64 j] w (AccPost (.int .i64 ((i : Int) + 1)) w) := by
  obtain ⟨x, h⟩ := h
  have hjl := (List.getElem?_eq_some_iff.1 hj).1
  have hp := ps_at (ps := x.ps) (i := i) (by rw [h.len]; exact hl)
  have c2 : w.cell? ⟨x.ps.getD i 0, 1, none⟩ = some (.int .i64 ((i : Int) + 1)) := (h.sub i _ hp).2.cell 1
  obtain ⟨g, cap, hv, _, _⟩ := h.queue.form (by omega)
  obtain ⟨n, hn⟩ : ∃ n, n = m.queue.length := ⟨_, rfl⟩
  have c0 : w.cell? ⟨L, 12, none⟩ = some (.slice (some ⟨g, 0, none⟩) n cap) := by rw [hn, ← hv]; exact h.led.cell 12
  have c1 : w.cell? ⟨g, j, none⟩ = some (.pointer (some ⟨x.ps.getD i 0, 0, none⟩)) := by
    have := h.queue
    rw [hv] at this
    rw [this.cellAt j (by omega), List.getElem?_map, List.getElem?_map, hj]
    rfl
  generalize x.ps.getD i 0 = p at c1 c2
  have hin : j < n := by omega
  rw [← hn] at hm
  clear h hp hv hn hj hjl
  go_enter Tryf.func29, Tryf.ntmps29
  go_wp2
  go_ret
  exact ⟨rfl, Below.refl _ _⟩

set_option maxHeartbeats 2000000 in
theorem accRec (w : World) (F : Nat → Prop) (L : Nat) (m : PLed) (j : Nat) (r : Nat × Int) (h : IsLed w F L m) (hj : m.recs[j]? = some r) (hl : r.1 < m.subs.length) (hm : m.recs.length ≤ 4096) : Calls Tryf.prog 30 #[.pointer (some ⟨L, 0, none⟩), .int .i64 j] w (AccPost (.tuple #[.int .i64 ((r.1 : Int) + 1), .int .i64 r.2]) w) := by
  obtain ⟨x, h⟩ := h
  have hjl := (List.getElem?_eq_some_iff.1 hj).1
  have hp := ps_at (ps := x.ps) (i := r.1) (by rw [h.len]; exact hl)
  have c2 : w.cell? ⟨x.ps.getD r.1 0, 1, none⟩ = some (.int .i64 ((r.1 : Int) + 1)) := (h.sub r.1 _ hp).2.cell 1
  obtain ⟨g, cap, hv, _, _⟩ := h.recs.form (by omega)
  obtain ⟨n, hn⟩ : ∃ n, n = m.recs.length := ⟨_, rfl⟩
  have c0 : w.cell? ⟨L, 13, none⟩ = some (.slice (some ⟨g, 0, none⟩) n cap) := by rw [hn, ← hv]; exact h.led.cell 13
  have hrow := h.recs
  rw [hv] at hrow
  have c1 : w.cell? ⟨g, j * 2, none⟩ = some (.pointer (some ⟨x.ps.getD r.1 0, 0, none⟩)) := by
    rw [hrow.cellAt (j * 2) (by omega)]
    exact flat_get hj (p := 0) (by omega)
  have c3 : w.cell? ⟨g, j * 2 + 1, none⟩ = some (.int .i64 r.2) := by
    rw [hrow.cellAt (j * 2 + 1) (by omega)]
    exact flat_get hj (p := 1) (by omega)
  generalize x.ps.getD r.1 0 = p at c1 c2
  have hin : j < n := by omega
  rw [← hn] at hm
  clear h hp hv hn hj hjl hrow
  go_enter Tryf.func30, Tryf.ntmps30
  go_wp2
  try go_region
  try go_wp2
  go_ret2
  exact ⟨rfl, by first | exact Below.refl _ _ | exact (Below.refl _ _).drew⟩

theorem accDis (w : World) (F : Nat → Prop) (L : Nat) (m : PLed) (c : ByteArray) (h : IsLed w F L m) (hc : c ∈ m.disq) (hs : c.size ≤ maxLen) : Calls Tryf.prog 31 #[.pointer (some ⟨L, 0, none⟩), .string c] w (AccPost (.bool true) w) := by
  obtain ⟨x, h⟩ := h
  have c0 : w.cell? ⟨L, 1, none⟩ = some (.map (some x.dm)) := h.led.cell 1
  have hlk := h.set.lookup (t := 101) (k := 9) (el := 4) Tryf.underlying101 Tryf.underlying9 (fun w => by kernel_rfl) h.dmap hs
  rw [memB_iff.2 hc] at hlk
  clear h hc
  go_enter Tryf.func31, Tryf.ntmps31
  go_wp2
  go_ret
  exact ⟨rfl, Below.refl _ _⟩

theorem accSol (w : World) (F : Nat → Prop) (L : Nat) (m : PLed) (t : ByteArray) (n : Int) (h : IsLed w F L m) (hc : (t, n) ∈ m.solved) (hg : goodK (t, n)) : Calls Tryf.prog 32 #[.pointer (some ⟨L, 0, none⟩), .string t, .int .i64 n] w (AccPost (.bool true) w) := by
  obtain ⟨x, h⟩ := h
  have c0 : w.cell? ⟨L, 11, none⟩ = some (.map (some x.sm)) := h.led.cell 11
  have hlk := h.sol.lookup h.smap hg.1 hg.2
  rw [memK_iff.2 hc] at hlk
  clear h hc
  go_enter Tryf.func32, Tryf.ntmps32
  go_wp2
  go_ret
  exact ⟨rfl, Below.refl _ _⟩

set_option maxRecDepth 20000 in
theorem accLedger (w : World) (H hm : Nat) (Ls : List PLed) (p : Nat → Nat) (G : Nat → Nat → Prop) (i : Nat) (nm : ByteArray) (h : HubAt w 9 H hm Ls p G) (hi : i < Ls.length) (hn : nm = (ledAt Ls i).name) (hs : nm.size ≤ maxLen) : Calls Tryf.prog 17 #[.pointer (some ⟨H, 0, none⟩), .string nm] w (AccPost (.pointer (some ⟨p i, 0, none⟩)) w) := by
  obtain ⟨C, hC, hC9⟩ := h.hub
  obtain ⟨es, ck, hmap, hkm⟩ := h.map
  have c9 : w.cell? ⟨H, 9, none⟩ = some (.map (some hm)) := (hC.cell 9).trans hC9
  have hnm : (Ls.map PLed.name)[i]? = some nm := by rw [List.getElem?_map, ledAt_eq hi, hn]; rfl
  have hlk : (Instr.lookup 45 (.map (some hm)) (.string nm) false).run Tryf.prog w = .ok (.pointer (some ⟨p i, 0, none⟩)) w := by
    rcases KMap.lookup (z := .pointer none) Tryf.underlying45 keyS hkm (fun w => by kernel_rfl) hmap (a := nm) hs with ⟨h1, _⟩ | ⟨j, v, h1, h2, h3⟩
    · exact absurd (List.mem_of_getElem? hnm) h1
    · have hij : j = i := (List.getElem?_inj (List.getElem?_eq_some_iff.1 h1).1 hkm.nodup).1 (h1.trans hnm.symm)
      subst hij
      rw [List.getElem?_map, List.getElem?_range hi] at h2
      simp [ptrV] at h2
      subst h2
      exact h3 false
  clear h hC hmap hkm hnm hn hs hi
  go_enter Tryf.func17, Tryf.ntmps17
  go_wp2
  go_ret
  exact ⟨rfl, Below.refl _ _⟩

set_option maxRecDepth 20000 in
theorem accCount (w : World) (H hm : Nat) (Ls : List PLed) (p : Nat → Nat) (G : Nat → Nat → Prop) (h : HubAt w 9 H hm Ls p G) : Calls Tryf.prog 9 #[.pointer (some ⟨H, 0, none⟩)] w (AccPost (.int .i64 Ls.length) w) := by
  obtain ⟨C, hC, hC9⟩ := h.hub
  obtain ⟨es, ck, hmap, hkm⟩ := h.map
  have c9 : w.cell? ⟨H, 9, none⟩ = some (.map (some hm)) := (hC.cell 9).trans hC9
  have hc := hkm.count
  rw [List.length_map] at hc
  have hlen : ∀ ty, (Builtin.len_ #[45] ty #[.map (some hm)]).run Tryf.prog w = .ok (goInt Ls.length) w := fun ty => by
    rw [← hc]
    simp [Builtin.len_, run_underlying Tryf.underlying45, MapKept.run_getObj_map hmap, goInt, Result.andThen]
  clear h hC hmap hkm hc
  go_enter Tryf.func9, Tryf.ntmps9
  go_wp2
  go_ret
  exact ⟨rfl, Below.refl _ _⟩
end Go.Proofs.Qxb6616853aFmt
