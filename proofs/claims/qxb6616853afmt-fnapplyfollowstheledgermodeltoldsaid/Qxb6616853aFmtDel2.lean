import Derived.Test.Qxb6616853aFmtDel
namespace Go.Proofs.Qxb6616853aFmt
open Go.RowKit
attribute [local go_sem ↓] Go.wp_at_zero Go.wp_at_succ

def DelPost (vq : Value) (Qs : List (Nat × ByteArray)) (code : ByteArray) (w : World) (e : Ending) (w' : World) : Prop :=
  ∃ v', e = .returned v' ∧ w'.ownsRow 0 110 1 v' (Qs.filter (keepB code)).length ((Qs.filter (keepB code)).map pv) ∧ v'.ownBlock = vq.ownBlock ∧ w.grownBy w' vq.ownBlock

theorem Quiet.owns {w w' : World} (h : Quiet w w') {base : Nat} {e : TypeId} {size : Nat} {v : Value} {n : Nat} {xs : List Value} (ho : w.ownsRow base e size v n xs) : w'.ownsRow base e size v n xs := by
  unfold World.ownsRow at *
  rw [h.heap]
  exact ho

theorem ownsRow_parts {w : World} {g n cap : Nat} {xs : List Value} (h : w.ownsRow 0 110 1 (.slice (some ⟨g, 0, none⟩) n cap) n xs) : ∃ cur, Blk w g cur 110 ∧ n ≤ cap ∧ cap ≤ maxLen ∧ cur.size = cap ∧ cur.toList.take n = xs := by
  rcases h.2 with ⟨h', _⟩ | ⟨g', cap', cur, h', _, hg, hnc, hcm, hcs, htake⟩
  · simp at h'
  · simp only [Value.slice.injEq, Option.some.injEq, Addr.mk.injEq, and_true, true_and] at h'
    obtain ⟨rfl, rfl⟩ := h'
    exact ⟨cur, hg, hnc, hcm, by omega, by simpa using htake⟩

theorem DelRow.start {w : World} {g cap : Nat} {Qs : List (Nat × ByteArray)} {code : ByteArray} {k : Nat} (h : w.ownsRow 0 110 1 (.slice (some ⟨g, 0, none⟩) Qs.length cap) Qs.length (Qs.map pv)) (hk : k < Qs.length)
    (hpre : ∀ x ∈ Qs.take k, keepB code x = true) (hat : ∀ x, Qs[k]? = some x → keepB code x = false) : DelRow w g cap Qs code k (k + 1) := by
  obtain ⟨cur, h1, h2, h3, h4, h5⟩ := ownsRow_parts h
  have hf : (Qs.take (k + 1)).filter (keepB code) = Qs.take k := by
    rw [List.take_add_one, List.filter_append, List.filter_eq_self.2 hpre, List.getElem?_eq_getElem hk]
    simp [hat _ (List.getElem?_eq_getElem hk)]
  refine ⟨cur, h1, h4, ?_, ?_, fun m x hm hx => ?_⟩
  · rw [hf, List.length_take]
    omega
  · rw [hf, List.map_take, ← h5, List.take_take]
    congr 1
    omega
  · have hml := (List.getElem?_eq_some_iff.1 hx).1
    have e : (cur.toList.take Qs.length)[m]? = some (pv x) := by rw [h5, List.getElem?_map, hx]; rfl
    rw [List.getElem?_take, if_pos hml] at e
    simpa using e

theorem heap_setCells_size (g : Nat) : ∀ (vs : List Value) (o : Nat) (w : World), (w.setCells g o vs).heap.size = w.heap.size
  | [], _, _ => rfl
  | v :: vs, o, w => by
    show ((w.setCell ⟨g, o, none⟩ v).setCells g (o + 1) vs).heap.size = _
    rw [heap_setCells_size g vs (o + 1)]
    simp

theorem Blk.setCells {g : Nat} {t : TypeId} : ∀ (vs : List Value) (o : Nat) (w : World) (C : Array Value), Blk w g C t → ∃ C', Blk (w.setCells g o vs) g C' t ∧ C'.size = C.size ∧ ∀ m, m < o → C'[m]? = C[m]?
  | [], _, _, C, h => ⟨C, h, rfl, fun _ _ => rfl⟩
  | v :: vs, o, w, C, h => by
    obtain ⟨C', h1, h2, h3⟩ := Blk.setCells vs (o + 1) (w.setCell ⟨g, o, none⟩ v) _ (h.set o v)
    refine ⟨C', h1, by simpa using h2, fun m hm => ?_⟩
    rw [h3 m (by omega), Array.getElem?_setIfInBounds_ne (by omega)]

theorem heap_setCells_other (g k : Nat) (hk : k ≠ g) : ∀ (vs : List Value) (o : Nat) (w : World), (w.setCells g o vs).heap[k]? = w.heap[k]?
  | [], _, _ => rfl
  | v :: vs, o, w => by
    show ((w.setCell ⟨g, o, none⟩ v).setCells g (o + 1) vs).heap[k]? = _
    rw [heap_setCells_other g k hk vs (o + 1), Below.heap_setCell _ _ _ _ hk]

theorem setCells_rest (g : Nat) : ∀ (vs : List Value) (o : Nat) (w : World), (w.setCells g o vs).os = w.os ∧ (w.setCells g o vs).tape = w.tape ∧ (w.setCells g o vs).output = w.output
  | [], _, _ => ⟨rfl, rfl, rfl⟩
  | v :: vs, o, w => setCells_rest g vs (o + 1) (w.setCell ⟨g, o, none⟩ v)

theorem grownBy_set {w w' : World} {g : Nat} (h : w.grownBy w' (some g)) (i : Nat) (v : Value) : w.grownBy (w'.setCell ⟨g, i, none⟩ v) (some g) :=
  ⟨h.os, h.tape, h.output, by simpa using h.size, fun k hk hne => (Below.heap_setCell w' ⟨g, i, none⟩ v k (fun e => hne (congrArg some e))).trans (h.block k hk hne)⟩

theorem grownBy_quiet {w w' w2 : World} {row : Option Nat} (h : w.grownBy w' row) (q : Quiet w' w2) : w.grownBy w2 row :=
  ⟨q.os.trans h.os, q.tape.trans h.tape, q.output.trans h.output, by rw [q.heap]; exact h.size, fun k hk hne => by rw [q.heap]; exact h.block k hk hne⟩

theorem grownBy_setCells {w w' : World} {g : Nat} (h : w.grownBy w' (some g)) (i : Nat) (vs : List Value) : w.grownBy (w'.setCells g i vs) (some g) :=
  ⟨(setCells_rest g vs i w').1.trans h.os, (setCells_rest g vs i w').2.1.trans h.tape, (setCells_rest g vs i w').2.2.trans h.output, by rw [heap_setCells_size]; exact h.size,
    fun k hk hne => (heap_setCells_other g k (fun e => hne (congrArg some e)) vs i w').trans (h.block k hk hne)⟩

theorem DelRow.done {w : World} {g cap : Nat} {Qs : List (Nat × ByteArray)} {code : ByteArray} {i n : Nat} (h : DelRow w g cap Qs code i n) (hn : n = Qs.length) (hm : cap ≤ maxLen) (hc : n ≤ cap) (vs : List Value) :
    (w.setCells g i vs).ownsRow 0 110 1 (.slice (some ⟨g, 0, none⟩) i cap) (Qs.filter (keepB code)).length ((Qs.filter (keepB code)).map pv) := by
  obtain ⟨C, h1, h2, h3, h4, _⟩ := h
  rw [hn, List.take_length] at h3 h4
  obtain ⟨C', k1, k2, k3⟩ := Blk.setCells vs i w C h1
  have hi : i ≤ n := by
    have := List.length_filter_le (keepB code) Qs
    omega
  refine ⟨by simp, Or.inr ⟨g, cap, C', by rw [h3], Nat.zero_le _, k1, by omega, hm, by omega, ?_⟩⟩
  rw [← h4, ← h3, Nat.mul_one]
  apply List.ext_getElem?
  intro m
  rw [List.getElem?_take, List.getElem?_take]
  by_cases hmi : m < i
  · rw [if_pos hmi, if_pos hmi]
    simpa using k3 m hmi
  · rw [if_neg hmi, if_neg hmi]

theorem zero70 (w : World) : (zeroValue 110).run Tryf.prog w = .ok (.pointer none) w := by kernel_rfl

set_option maxHeartbeats 2000000 in
theorem deleteF_any (vq : Value) (Qs : List (Nat × ByteArray)) (code : ByteArray) (B : Nat) (w : World) (hlen : Qs.length ≤ 4096) (hown : w.ownsRow 0 110 1 vq Qs.length (Qs.map pv))
    (hq : ∀ x ∈ Qs, w.cell? ⟨x.1, 2, none⟩ = some (.string x.2) ∧ vq.ownBlock ≠ some x.1) (hB : w.cell? ⟨B, 0, none⟩ = some (.string code)) (hBn : vq.ownBlock ≠ some B) :
    Calls Tryf.prog 53 #[vq, .func (.func 54) #[] #[.pointer (some ⟨B, 0, none⟩)]] w (DelPost vq Qs code w) := by
  rcases hown.2 with ⟨rfl, hn0⟩ | ⟨g, cap, cur, rfl, _, hg, hnc, hcm, hcs, htake⟩
  · have hQ : Qs = [] := List.eq_nil_of_length_eq_zero hn0
    subst hQ
    go_enter Tryf.func53, Tryf.ntmps53
    go_wp2_with fail
    refine (indexF_any none 0 [] code B _ (by simp) (by simp) hB).mono ?_
    rintro e w1 ⟨r, rfl, hq1, hr⟩
    rcases hr with ⟨rfl, _⟩ | ⟨k, _, hk, _⟩
    · go_wp2
      go_ret
      exact ⟨_, rfl, World.ownsRow_nil _ _ _ _, rfl, hq1.grown _⟩
    · simp at hk
  · have hel : ∀ i x, Qs[i]? = some x → w.cell? ⟨g, i, none⟩ = some (pv x) := by
      intro i x hx
      have hi := (List.getElem?_eq_some_iff.1 hx).1
      rw [hown.cellAt i (by omega), List.getElem?_map, hx]
      rfl
    have hidx := indexF_any (some ⟨g, 0, none⟩) cap Qs code B w hlen (fun i x hx => ⟨g, rfl, hel i x hx, (hq x (List.mem_of_getElem? hx)).1⟩) hB
    have hne : ∀ x ∈ Qs, x.1 ≠ g := fun x hx e => (hq x hx).2 (by rw [e]; rfl)
    have hBg : B ≠ g := fun e => hBn (by rw [e]; rfl)
    have hcap : Qs.length ≤ cap := hnc
    have HO : Hid _ := hown
    have hstart0 := fun k => DelRow.start (code := code) (k := k) hown
    clear hown hg hcs htake hnc cur
    obtain ⟨n, hn⟩ : ∃ n, n = Qs.length := ⟨_, rfl⟩
    have HN : Hid (n = Qs.length) := hn
    rw [← hn] at hidx hlen hcap ⊢
    clear hn
    have HM : Hid (cap ≤ maxLen) := hcm
    unfold maxLen at hcm
    go_enter Tryf.func53, Tryf.ntmps53
    go_wp2_with fail
    refine hidx.mono ?_
    rintro e w1 ⟨r, rfl, hq1, hr⟩
    rcases hr with ⟨rfl, hall⟩ | ⟨k, rfl, hk, hpre, hat⟩
    · clear hidx hel hq hne hstart0
      have hfs : Hid (Qs.filter (keepB code) = Qs) := List.filter_eq_self.2 hall
      clear hall
      go_wp2
      go_ret
      refine ⟨_, rfl, ?_, rfl, hq1.grown _⟩
      rw [hfs.out]
      have ho := hq1.owns HO.out
      rw [← HN.out] at ho ⊢
      exact ho
    · have hstart : DelRow w1 g cap Qs code k (k + 1) := (hstart0 k hk hpre hat).quiet hq1
      rw [← HN.out] at hk
      clear hidx hel hpre hat hstart0
      go_wp2
      go_loopw [5, 6] (fun vi vj wr => ∃ i j : Nat, vi = .int .i64 i ∧ vj = .int .i64 j ∧ i < j ∧ j ≤ n ∧ DelRow wr g cap Qs code i j ∧ w.grownBy wr (some g)) (fun _ vj _ => n - (intOf vj).toNat)
      case atStart => exact ⟨k, k + 1, rfl, by go_num, by omega, by omega, hstart, hq1.grown _⟩
      case round =>
        obtain ⟨i, j, rfl, rfl, hij, hjn, hrow, hgr⟩ := hrel
        clear hstart
        by_cases hlt : j < n
        · obtain ⟨x, hx⟩ : ∃ x, Qs[j]? = some x := ⟨_, List.getElem?_eq_getElem (by rw [← HN.out]; exact hlt)⟩
          have hxm := List.mem_of_getElem? hx
          have hc2 := hgr.cell (hq x hxm).1 (by intro e; exact hne x hxm (by simpa using e))
          have hcB := hgr.cell hB (by intro e; exact hBg (by simpa using e))
          have hkeep := fun hk w' hq => (hrow.quiet (w' := w') hq).keep hx hk (by rw [← HN.out]; exact hcap)
          have hdrop := fun hk => hrow.drop hx hk
          obtain ⟨C, hb1, hb2, hb3, hb4, hb5⟩ := hrow
          have hcj : wr.cell? ⟨g, j, none⟩ = some (.pointer (some ⟨x.1, 0, none⟩)) := by rw [hb1.cell]; exact hb5 j x (Nat.le_refl _) hx
          have hci : ∃ v, wr.cell? ⟨g, i, none⟩ = some v := ⟨C[i], by rw [hb1.cell]; simp⟩
          obtain ⟨v0, hci⟩ := hci
          have hfi := hb1.frozen i
          clear hb2 hb3 hb4 hb5 hxm hx hq hne hB hBg hBn
          go_wp2_with fail
          refine (clos_any x.1 B x.2 code _ hc2 hcB).mono ?_
          rintro e w2 ⟨rfl, hq2⟩
          have hci2 : w2.cell? ⟨g, i, none⟩ = some v0 := (hq2.cell _).trans hci
          have hfi2 : w2.frozen? ⟨g, i, none⟩ = false := (World.frozen?_of_block (by rw [hq2.heap])).trans hfi
          cases he : eqS x.2 code
          · have HK : Hid _ := hkeep (by unfold keepB; rw [he]; rfl) w2 hq2
            clear hkeep hdrop hci hfi hb1 hcj hc2 hcB
            go_wp2
            go_roundw
            case rel =>
              repeat apply Exists.intro
              exact ⟨⟨i + 1, j + 1, by go_num, by go_num, by omega, by omega, HK.out, grownBy_set (grownBy_quiet hgr hq2) _ _⟩, rfl⟩
            case measure => simp [intOf]; omega
          · have HK : Hid _ := (hdrop (by unfold keepB; rw [he]; rfl)).quiet hq2
            clear hkeep hdrop hci hfi hb1 hcj hc2 hcB
            go_wp2
            go_roundw
            case rel =>
              repeat apply Exists.intro
              exact ⟨⟨i, j + 1, rfl, by go_num, by omega, by omega, HK.out, grownBy_quiet hgr hq2⟩, rfl⟩
            case measure => simp [intOf]; omega
        · obtain rfl : j = n := by omega
          have hfin := fun vs => hrow.done HN.out HM.out hcap vs
          obtain ⟨C, hb1, hb2, hb3, hb4, hb5⟩ := hrow
          have hcl : ∀ ty, (Builtin.clear_ #[102] ty #[.slice (some ⟨g, i, none⟩) (j - i) (cap - i)]).run Tryf.prog wr = .ok (.tuple #[]) (wr.setCells g i (List.replicate (j - i) (.pointer none))) :=
            fun ty => Lib.run_clear_slice wr 102 110 ty (.pointer none) Tryf.underlying102 zero70 rfl rfl g i (j - i) (cap - i) (by omega) (fun m hm => by rw [hb1.cell]; simp; omega) (fun m hm => hb1.frozen _)
          have HF : Hid _ := hfin (List.replicate (j - i) (.pointer none))
          have hci : ¬ cap = i := by omega
          clear hfin hb1 hb2 hb3 hb4 hb5 hq hne hB hBg hBn
          go_wp2
          go_ret
          exact ⟨_, rfl, HF.out, rfl, grownBy_setCells hgr _ _⟩
end Go.Proofs.Qxb6616853aFmt
