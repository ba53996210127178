import Derived.Test.Qxb6616853aFmtMpre
namespace Go.Proofs.Qxb6616853aFmt
open Go.RowKit

theorem filt_yes {Q : List Nat} {p : Nat → Bool} {k q : Nat} (hq : Q[k]? = some q) (hp : p q = true) : (Q.take (k + 1)).filter p = (Q.take k).filter p ++ [q] := by
  rw [List.take_add_one, hq, List.filter_append]
  simp [hp]
theorem filt_no {Q : List Nat} {p : Nat → Bool} {k q : Nat} (hq : Q[k]? = some q) (hp : p q = false) : (Q.take (k + 1)).filter p = (Q.take k).filter p := by
  rw [List.take_add_one, hq, List.filter_append]
  simp [hp]

/-- In the midst of building the queue anew. -/
structure Reb (wb : World) (Q : List Nat) (p : Nat → Bool) (k : Nat) (vq : Value) (wr : World) : Prop where
  own : wr.ownsRow 0 3 1 vq ((Q.take k).filter p).length (((Q.take k).filter p).map idV)
  up : ∀ b, vq.ownBlock = some b → wb.heap.size ≤ b
  below : Below wb.heap.size wb wr

theorem Reb.start (wb : World) (Q : List Nat) (p : Nat → Bool) : Reb wb Q p 0 (.slice none 0 0) wb := ⟨by simpa using World.ownsRow_nil wb 0 3 1, fun b hb => by simp [Value.ownBlock] at hb, Below.refl _ _⟩

theorem Reb.quiet {wb wr wr' : World} {Q : List Nat} {p : Nat → Bool} {k : Nat} {vq : Value} (h : Reb wb Q p k vq wr) (hq : Quiet wr wr') : Reb wb Q p k vq wr' :=
  ⟨owns_of_block h.own (fun b _ => by rw [hq.heap]), h.up, h.below.trans (hq.below _)⟩

theorem Reb.skip {wb wr : World} {Q : List Nat} {p : Nat → Bool} {k q : Nat} {vq : Value} (h : Reb wb Q p k vq wr) (hq : Q[k]? = some q) (hp : p q = false) : Reb wb Q p (k + 1) vq wr := by
  have e := filt_no hq hp
  exact ⟨by rw [e]; exact h.own, h.up, h.below⟩

theorem Reb.push {wb wr w4 : World} {Q : List Nat} {p : Nat → Bool} {k q g cap c H : Nat} {vq : Value} {o : Obj} (h : Reb wb Q p k vq wr) (hq : Q[k]? = some q) (hp : p q = true) (hc : c = ((Q.take k).filter p).length)
    (hown : w4.ownsRow 0 3 1 (.slice (some ⟨g, 0, none⟩) (c + 1) cap) (c + 1) (((Q.take k).filter p).map idV ++ [idV q])) (hgr : (wr.alloc o).grownBy w4 vq.ownBlock) (hat : vq.ownBlock = some g ∨ g = H) (hH : H = wr.heap.size + 1) : Reb wb Q p (k + 1) (.slice (some ⟨g, 0, none⟩) (c + 1) cap) w4 := by
  have hsz := h.below.size
  refine ⟨?_, fun b hb => ?_, h.below.trans ⟨hgr.os, hgr.tape, hgr.output, by have := hgr.size; simp at this; omega, fun b hb => ?_⟩⟩
  · rw [filt_yes hq hp, List.length_append, List.map_append, ← hc]
    exact hown
  · obtain rfl : g = b := by simpa [Value.ownBlock] using hb
    rcases hat with h1 | h1
    · exact h.up g h1
    · omega
  · exact (hgr.block b (by simp; omega) (fun e => by have := h.up b e.symm; omega)).trans (Below.heap_alloc _ _ _ (by omega))

/-- The model while ledger i is in work. -/
def ModI (wa : World) (F : Nat → Prop) (V : Value) (l : Nat) (M0 : Nat → MR) (i : Nat) (M : MR) (wx : World) : Prop := ∃ x', ModAt wx V l (put1 M0 i M) x' ∧ Framed wa F wx (foot V l x')

theorem ModI.start {wa wb : World} {V : Value} {l : Nat} {M0 : Nat → MR} {i : Nat} {M : MR} {x : Nat → Nat → Value} (h : ModAt wa V l M0 x) (hM : (M0 i).Eq6 M) (hb : Below wa.heap.size wa wb) : ModI wa (foot V l x) V l M0 i M wb :=
  ⟨x, (h.below hb).congr (fun j _ => by
    by_cases hj : j = i
    · subst hj
      rw [put1_same]
      exact hM
    · rw [put1_other _ _ hj]
      exact MR.Eq6.refl _), Framed.ofBelow hb (Nat.le_refl _)⟩

theorem ModI.block {wa wx : World} {F : Nat → Prop} {V : Value} {l : Nat} {M0 : Nat → MR} {i : Nat} {M : MR} (h : ModI wa F V l M0 i M wx) {b : Nat} {C : Array Value} {t : TypeId} (hF : ¬ F b) (hb : Blk wa b C t) : Blk wx b C t := by
  obtain ⟨x', _, h2⟩ := h
  exact (h2.block b hb.lt hF).trans hb

theorem ModI.below {wa wx wy : World} {F : Nat → Prop} {V : Value} {l : Nat} {M0 : Nat → MR} {i : Nat} {M : MR} (h : ModI wa F V l M0 i M wx) (hb : Below wx.heap.size wx wy) : ModI wa F V l M0 i M wy := by
  obtain ⟨x', h1, h2⟩ := h
  exact ⟨x', h1.below hb, h2.trans (Framed.ofBelow hb (Nat.le_refl _))⟩
theorem ModI.eq6 {wa wx : World} {F : Nat → Prop} {V : Value} {l : Nat} {M0 : Nat → MR} {i : Nat} {M M' : MR} (h : ModI wa F V l M0 i M wx) (hM : M.Eq6 M') : ModI wa F V l M0 i M' wx := by
  obtain ⟨x', h1, h2⟩ := h
  refine ⟨x', h1.congr (fun j _ => ?_), h2⟩
  by_cases hj : j = i
  · subst hj
    rw [put1_same, put1_same]
    exact hM
  · rw [put1_other _ _ hj, put1_other _ _ hj]
    exact MR.Eq6.refl _

/-- One of the six slices turned, in the old block or in a new one, behind a Below. -/
theorem ModI.turned {wa wb wr : World} {F : Nat → Prop} {g l cap : Nat} {M0 : Nat → MR} {i : Nat} {M M' : MR} {x : Nat → Nat → Value} (h : ModAt wb (.slice (some ⟨g, 0, none⟩) l cap) l (put1 M0 i M) x) (hf : Framed wa F wb (foot (.slice (some ⟨g, 0, none⟩) l cap) l x)) (hi : i < l) {f : Nat} (hf6 : f < 6) {u : Value} {k' : Nat} {c' : List Value}
    (hgr : wb.grownBy wr (x i f).ownBlock) (hown : wr.ownsRow 0 (ety f) (esz f) u k' c') (hu : ∀ b, u.ownBlock = some b → (x i f).ownBlock = some b ∨ wb.heap.size ≤ b) (hM : ({ M with k := put1 M.k f k', c := put1 M.c f c' } : MR).Eq6 M') :
    ModI wa F (.slice (some ⟨g, 0, none⟩) l cap) l M0 i M' (wr.setCell ⟨g, i * 13 + fpos f, none⟩ u) := by
  obtain ⟨h1, h2⟩ := h.turn hi hf6 hgr hown hu
  refine ⟨_, h1.congr (fun j _ => ?_), hf.trans h2⟩
  rw [put1_put1]
  by_cases hj : j = i
  · subst hj
    rw [put1_same, put1_same, put1_same]
    exact hM
  · rw [put1_other _ _ hj, put1_other _ _ hj]
    exact MR.Eq6.refl _

theorem ModI.fin {w wa wx : World} {F : Nat → Prop} {Ls : List PLed} {e : PEv} {i l g cap : Nat} {m : PLed} {M : MR} {x : Nat → Nat → Value} {b : Bool}
    (h : ModI wa (foot (.slice (some ⟨g, 0, none⟩) l cap) l x) (.slice (some ⟨g, 0, none⟩) l cap) l (fun i => MR.of (ledAt (withL Ls e.oly) i)) i M wx) (hF : Framed w F wa (foot (.slice (some ⟨g, 0, none⟩) l cap) l x)) (hl : l = (withL Ls e.oly).length) (hi : i < l)
    (hS : stepAll Ls e = (withL Ls e.oly).set i (m.step e)) (hR : refAll Ls e = m.refB e) (hE : M.Eq6 (MR.of (m.step e))) (hb : b = m.refB e) : StepPost w F (stepAll Ls e) (refAll Ls e) (.returned (.tuple #[.slice (some ⟨g, 0, none⟩) l cap, .bool b])) wx := by
  obtain ⟨x', h1, h2⟩ := h
  exact StepPost.fin h1 (hF.trans h2) hl hi hS hR hE hb

/-- An append onto one of the slices, the element laid into a block of its own, then the store: the worlds. -/
theorem grown_of_alloc {wb w4 : World} {o : Obj} {r : Option Nat} (hgr : (wb.alloc o).grownBy w4 r) : wb.grownBy w4 r :=
  ⟨hgr.os, hgr.tape, hgr.output, by have := hgr.size; simp at this; omega, fun k hk hne => (hgr.block k (by simp; omega) hne).trans (Below.heap_alloc _ _ _ hk)⟩
theorem grown_of_quiet {wb wc w4 : World} {r : Option Nat} (hq : Below wb.heap.size wb wc) (hgr : wc.grownBy w4 r) : wb.grownBy w4 r :=
  ⟨hgr.os.trans hq.os, hgr.tape.trans hq.tape, hgr.output.trans hq.output, Nat.le_trans hq.size hgr.size, fun k hk hne => (hgr.block k (Nat.lt_of_lt_of_le hk hq.size) hne).trans (hq.block k hk)⟩
theorem IsBytes.framed {w w' : World} {F F' : Nat → Prop} {v : Value} {s : ByteArray} (h : IsBytes w v s) (hf : Framed w F w' F') (h2 : ∀ b, F b → ∀ a l c, l ≠ 0 → v ≠ .slice (some ⟨b, a, none⟩) l c) : IsBytes w' v s := by
  rcases h with h1 | ⟨b, off, len, cap, xs, h3, h4, h5, h6⟩
  · exact Or.inl h1
  · refine Or.inr ⟨b, off, len, cap, xs, h3, h4, h5, fun j hj => ?_⟩
    obtain ⟨h7, h8⟩ := h6 j hj
    exact ⟨Nat.lt_of_lt_of_le h7 hf.size, (World.cell?_of_block (a := ⟨b, off + j, none⟩) (hf.block b h7 (fun hF => h2 b hF _ _ _ (by omega) h3))).trans h8⟩

theorem clamp_quo (D : Int) : IntKind.i64.wrap ((clamp D).tdiv 60000000000) = (clamp D).tdiv 60000000000 := by
  have h1 : -9223372036854775808 ≤ clamp D ∧ clamp D ≤ 9223372036854775807 := by
    unfold clamp
    split
    · omega
    · split <;> omega
  have hr := Int.tmod_add_mul_tdiv (clamp D) 60000000000
  have h2 : (clamp D).tmod 60000000000 < 60000000000 := Int.tmod_lt_of_pos _ (by omega)
  have h3 : -60000000000 < (clamp D).tmod 60000000000 := by
    have := Int.tmod_lt_of_pos (-(clamp D)) (b := 60000000000) (by omega)
    rw [Int.neg_tmod] at this
    omega
  rw [IntKind.wrap_i64]
  omega

/-- The queue, a submission behind. -/
def pushM (m : PLed) (b : Bool) : PLed := { m with queue := if b then m.queue ++ [m.subs.length] else m.queue }
theorem MR.put_self (M0 : Nat → MR) (i : Nat) {w : World} {V : Value} {l : Nat} {x : Nat → Nat → Value} {M : MR} (h : ModAt w V l M0 x) (hM : (M0 i).Eq6 M) : ModAt w V l (put1 M0 i M) x := h.congr (fun j _ => by
    by_cases hj : j = i
    · subst hj
      rw [put1_same]
      exact hM
    · rw [put1_other _ _ hj]
      exact MR.Eq6.refl _)
end Go.Proofs.Qxb6616853aFmt
