import Derived.Test.Qxb6616853aFmtHub
namespace Go.Proofs.Qxb6616853aFmt
open Go.RowKit Go.Extern.Stop Go.Stop Go.Extern
open Go.ChangeMaps (setBlock)
attribute [local go_sem ↓] Go.wp_at_zero Go.wp_at_succ

/-- A new run: the solved tasks' map is new. -/
def RunPost (w : World) (e : Ending) (w' : World) : Prop :=
  ∃ sm, e = .returned (.agg #[.int .u64 0, .int .i64 0, .pointer none, .int .u64 0, .int .i64 0, .pointer none, .int .i64 0, .bool false, .slice none 0 0, .map (some sm), .slice none 0 0, .slice none 0 0, .bool true, .int .i64 0]) ∧
    w'.heap[sm]? = some (.map #[] 0) ∧ w.heap.size ≤ sm ∧ Below w.heap.size w w'

theorem newMap (w : World) : (w.alloc (.map #[] 0)).heap[w.heap.size]? = some (.map #[] 0) := by
  show (w.heap.push _)[w.heap.size]? = _
  simp

set_option maxRecDepth 20000 in
set_option maxHeartbeats 1000000 in
theorem newRun_any (w : World) : Calls Tryf.prog 42 #[] w (RunPost w) := by
  have hmm := @run_makeMap Tryf.prog
  go_enter Tryf.func42, Tryf.ntmps42
  go_wp2
  refine bodyPost_ret (v := .agg #[.int .u64 0, .int .i64 0, .pointer none, .int .u64 0, .int .i64 0, .pointer none, .int .i64 0, .bool false, .slice none 0 0, .map (some (w.heap.size + 1)), .slice none 0 0, .slice none 0 0, .bool true, .int .i64 0]) (by simp [results, Tryf.results42, go_sem]) rfl ⟨_, rfl, ?_, ?_, ?_⟩
  · show ((w.heap.push _).push _)[w.heap.size + 1]? = _
    rw [Array.getElem?_push, if_pos (by simp)]
  · omega
  · exact ((Below.refl _ _).alloc (Nat.le_refl _) _).alloc (by simp) _

theorem stripMono_any (n : Int) (b : Nat) (w : World) (h0 : 0 ≤ n) (h1 : n < 1000000000) (hc : w.cell? ⟨b, 0, none⟩ = some (.int .u64 n)) :
    Calls Tryf.prog 39 #[.pointer (some ⟨b, 0, none⟩)] w fun e w' => e = .returned (.tuple #[]) ∧ w' = w := by
  have hcl := bit_mono n h0 (by omega)
  go_enter Tryf.func39, Tryf.ntmps39
  go_wp2
  go_end0
  exact ⟨rfl, rfl⟩

def RoundPost (n s : Int) (w : World) (e : Ending) (w' : World) : Prop := e = .returned (tm n s) ∧ Below w.heap.size w w'

set_option maxHeartbeats 1000000 in
theorem round_any (n s : Int) (w : World) (h0 : 0 ≤ n) (h1 : n < 1000000000) : Calls Tryf.prog 40 #[tm n s, .int .i64 0] w (RoundPost n s w) := by
  go_enter Tryf.func40, Tryf.ntmps40
  unfold tm
  go_wp2_with fail
  refine (stripMono_any n _ _ h0 h1 (by simp)).mono ?_
  rintro e w' ⟨rfl, rfl⟩
  go_wp2
  refine bodyPost_ret (v := tm n s) (by simp [results, Tryf.results40, go_sem, tm]) rfl ⟨rfl, ?_⟩
  exact ((Below.refl _ _).alloc (Nat.le_refl _) _).alloc (by simp) _

def NewHubPost (w : World) (e : Ending) (w' : World) : Prop :=
  ∃ H hm, e = .returned (.pointer (some ⟨H, 0, none⟩)) ∧ HubAt w' 9 H hm [] (fun _ => 0) (fun _ _ => False) ∧ w.heap.size ≤ H ∧ w.heap.size ≤ hm ∧ Below w.heap.size w w'

set_option maxRecDepth 20000 in
set_option maxHeartbeats 1000000 in
theorem newHub_any (w : World) : Calls Tryf.prog 6 #[] w (NewHubPost w) := by
  have hmm := @run_makeMap Tryf.prog
  go_enter Tryf.func6, Tryf.ntmps6
  go_wp2
  go_ret
  refine ⟨w.heap.size + 1 + 1, w.heap.size, rfl, ⟨⟨#[.string ⟨#[]⟩, .int .i64 0, .string ⟨#[]⟩, .string ⟨#[]⟩, .pointer none, .int .i32 0, .int .u32 0, .pointer none, .pointer none, .map (some w.heap.size), .map (some (w.heap.size + 1)), .slice none 0 0], ?_, rfl⟩, ⟨#[], 0, ?_, KMap.empty⟩, by simp, by simp, by simp, by simp⟩, by omega, by omega, ?_⟩
  · have := Blk.new ((w.alloc (.map #[] 0)).alloc (.map #[] 0)) #[.string ⟨#[]⟩, .int .i64 0, .string ⟨#[]⟩, .string ⟨#[]⟩, .pointer none, .int .i32 0, .int .u32 0, .pointer none, .pointer none, .map (some w.heap.size), .map (some (w.heap.size + 1)), .slice none 0 0] 62
    simpa using this
  · rw [Below.heap_alloc _ _ _ (by simp; omega), Below.heap_alloc _ _ _ (by simp)]
    exact newMap w
  · exact (((Below.refl _ _).alloc (Nat.le_refl _) _).alloc (by simp) _).alloc (by simp; omega) _

/-- The hub's ledger called nm. -/
def OfPost (w : World) (H hm : Nat) (Ls : List PLed) (G : Nat → Nat → Prop) (nm : ByteArray) (e : Ending) (w' : World) : Prop :=
  ∃ p' G', e = .returned (.pointer (some ⟨p' (placeOf Ls nm), 0, none⟩)) ∧ HubAt w' 9 H hm (withL Ls nm) p' G' ∧ Framed w (hfoot H hm Ls.length G) w' (hfoot H hm (withL Ls nm).length G')

theorem place_get {Ls : List PLed} {nm : ByteArray} {j : Nat} (h : (Ls.map PLed.name)[j]? = some nm) (hap : NamesApart Ls) : placeOf Ls nm = j ∧ j < Ls.length := by
  have h0 := h
  rw [List.getElem?_map] at h
  obtain ⟨l, hl, hn⟩ := Option.map_eq_some_iff.1 h
  have hj := (List.getElem?_eq_some_iff.1 hl).1
  refine ⟨placeOf_found hl (eqS_iff.2 hn) (fun k l' hk hl' => ?_), hj⟩
  rw [eqS_false]
  intro e
  have h1 : (Ls.map PLed.name)[k]? = some nm := by rw [List.getElem?_map, hl']; exact congrArg some e
  have := (List.getElem?_inj (by simpa using Nat.lt_trans hk hj) hap).1 (h1.trans h0.symm)
  omega

set_option maxHeartbeats 2000000 in
theorem ledgerOf_any (w : World) (H hm : Nat) (Ls : List PLed) (p : Nat → Nat) (G : Nat → Nat → Prop) (nm : ByteArray) (h : HubAt w 9 H hm Ls p G) (hap : NamesApart Ls) (hnm : nm.size ≤ maxLen) :
    Calls Tryf.prog 41 #[.pointer (some ⟨H, 0, none⟩), .string nm] w (OfPost w H hm Ls G nm) := by
  obtain ⟨C, hC, hC9⟩ := h.hub
  obtain ⟨es, ck, hmap, hkm⟩ := h.map
  have c9 : w.cell? ⟨H, 9, none⟩ = some (.map (some hm)) := (hC.cell 9).trans hC9
  have hHl := hC.lt
  have hml : hm < w.heap.size := h.lt (Or.inr (Or.inl rfl))
  have HH : Hid (HubAt w 9 H hm Ls p G) := h
  have HC : Hid (Blk w H C 62) := hC
  rcases KMap.lookup (z := .pointer none) Tryf.underlying45 keyS hkm (fun w => by kernel_rfl) hmap (a := nm) hnm with ⟨h1, h2⟩ | ⟨j, v, h1, h2, h3⟩
  · have hlk : (Instr.lookup 45 (.map (some hm)) (.string nm) true).run Tryf.prog w = .ok (.tuple #[.pointer none, .bool false]) w := h2 true
    have HN : Hid (nm ∉ Ls.map PLed.name) := h1
    have HKM : Hid _ := hkm
    have HMAP : Hid (w.heap[hm]? = some (.map es ck)) := hmap
    clear h hC hmap hkm h1 h2
    have hmm := @run_makeMap Tryf.prog
    go_enter Tryf.func41, Tryf.ntmps41
    go_wp2_with fail
    refine (newRun_any _).mono ?_
    rintro e w1 ⟨sm, rfl, h1, h2, h3⟩
    clear hlk c9
    have hz := h3.size
    simp at hz h2
    have hbel : Below w.heap.size w w1 := ((Below.refl _ _).alloc (Nat.le_refl _) _).trans (h3.mono (by simp))
    have hdm : w1.heap[w.heap.size]? = some (.map #[] 0) := (h3.block _ (by simp)).trans (newMap w)
    obtain ⟨es', ck', hup, hkm'⟩ := KMap.push (clock := ck) Tryf.underlying45 keyS HKM.out hnm HN.out (ptrV w1.heap.size)
    have hb2 : Below w.heap.size w (w1.alloc (.cells (ledC (PLed.fresh nm) w.heap.size sm (.slice none 0 0) (.slice none 0 0) (.slice none 0 0)) 108)) := hbel.alloc (by omega) _
    have hrun := hup (w1.alloc (.cells (ledC (PLed.fresh nm) w.heap.size sm (.slice none 0 0) (.slice none 0 0) (.slice none 0 0)) 108)) hm ((hb2.block hm hml).trans HMAP.out)
    have d9 : (w1.alloc (.cells (ledC (PLed.fresh nm) w.heap.size sm (.slice none 0 0) (.slice none 0 0) (.slice none 0 0)) 108)).cell? ⟨H, 9, none⟩ = some (.map (some hm)) := ((HC.out.below hb2 hHl).cell 9).trans hC9
    obtain ⟨F', hl1, hl2⟩ := isLed_new (nm := nm) (w := w) (w' := w1.alloc (.cells (ledC (PLed.fresh nm) w.heap.size sm (.slice none 0 0) (.slice none 0 0) (.slice none 0 0)) 108)) (L := w1.heap.size) (dm := w.heap.size) (sm := sm) (Blk.new _ _ _)
      ((Below.heap_alloc _ _ _ (by omega)).trans hdm) ((Below.heap_alloc _ _ _ (Array.getElem?_eq_some_iff.1 h1).1).trans h1) (by omega) (by omega) (Nat.le_refl _) (by omega)
    have FIN := HH.out.push hb2 hl1 hl2 (ck' := ck') hkm'
    have hpl : placeOf Ls nm = Ls.length := by
      have h5 := placeOf_le Ls nm
      rcases Nat.lt_or_ge (placeOf Ls nm) Ls.length with h6 | h6
      · have h7 := placeOf_name h6
        exact absurd (List.mem_map.2 ⟨_, ledAt_mem h6, h7⟩) HN.out
      · omega
    have hwl : withL Ls nm = Ls ++ [PLed.fresh nm] := by unfold withL; rw [if_neg (by omega)]
    have HFIN : Hid _ := FIN
    have HPL : Hid (placeOf Ls nm = Ls.length) := hpl
    have HWL : Hid (withL Ls nm = Ls ++ [PLed.fresh nm]) := hwl
    obtain ⟨W2, hW2⟩ : ∃ W2, W2 = w1.alloc (.cells (ledC (PLed.fresh nm) w.heap.size sm (.slice none 0 0) (.slice none 0 0) (.slice none 0 0)) 108) := ⟨_, rfl⟩
    have HW2 : Hid (W2 = w1.alloc (.cells (ledC (PLed.fresh nm) w.heap.size sm (.slice none 0 0) (.slice none 0 0) (.slice none 0 0)) 108)) := hW2
    have hWX : W2 = w1.alloc (.cells #[.string nm, .map (some w.heap.size), .int .u64 0, .int .i64 0, .pointer none, .int .u64 0, .int .i64 0, .pointer none, .int .i64 0, .bool false, .slice none 0 0, .map (some sm), .slice none 0 0, .slice none 0 0, .bool true, .int .i64 0] 108) := by rw [hW2]; rfl
    have HWX : Hid (W2 = w1.alloc (.cells #[.string nm, .map (some w.heap.size), .int .u64 0, .int .i64 0, .pointer none, .int .u64 0, .int .i64 0, .pointer none, .int .i64 0, .bool false, .slice none 0 0, .map (some sm), .slice none 0 0, .slice none 0 0, .bool true, .int .i64 0] 108)) := hWX
    rw [← hW2] at hrun d9
    clear hWX
    unfold encS ptrV at hrun
    clear FIN hpl hwl hl1 hl2 hup hkm' hb2 hdm hbel h1 h2 h3 hz hmm hW2
    go_upto_region 4 with fail
    rw [← HWX.out]
    go_wp2
    go_ret
    refine ⟨put1 p Ls.length w1.heap.size, put1 G Ls.length F', ?_, ?_, ?_⟩
    · rw [HPL.out, put1_same]
      rfl
    · rw [HWL.out, HW2.out]
      exact HFIN.out.1
    · rw [HWL.out, HW2.out]
      exact HFIN.out.2
  · have hlk : (Instr.lookup 45 (.map (some hm)) (.string nm) true).run Tryf.prog w = .ok (.tuple #[v, .bool true]) w := h3 true
    obtain ⟨hpl, hjl⟩ := place_get h1 hap
    rw [List.getElem?_map, List.getElem?_range hjl] at h2
    simp [ptrV] at h2
    subst h2
    have hwl : withL Ls nm = Ls := by unfold withL; rw [if_pos (by omega)]
    have HPL : Hid (placeOf Ls nm = j) := hpl
    have HWL : Hid (withL Ls nm = Ls) := hwl
    clear h hC hmap hkm h1 h3 hpl hwl
    go_enter Tryf.func41, Tryf.ntmps41
    go_wp2
    go_ret
    refine ⟨p, G, ?_, ?_, ?_⟩
    · rw [HPL.out]
      rfl
    · rw [HWL.out]
      exact HH.out
    · rw [HWL.out]
      exact Framed.refl _ _
end Go.Proofs.Qxb6616853aFmt
