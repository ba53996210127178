import Derived.Test.Qxb6616853aFmtMfn
import Derived.Deep.CutBlock
namespace Go.Proofs.Qxb6616853aFmt
open Go.RowKit

theorem infoF43 : (Tryf.prog.info? 43).map (fun i => (i.zero, i.size, i.bytes)) = some (some (.agg #[.string ByteArray.empty, .slice none 0 0, .int .i64 0, .int .i64 0, .int .i64 0, .bool false, .bool false, .int .i64 0, .slice none 0 0, .slice none 0 0, .slice none 0 0, .slice none 0 0, .slice none 0 0]), 13, 200) := by kernel_rfl
theorem infoF71 : (Tryf.prog.info? 71).map (fun i => (i.zero, i.size, i.bytes)) = some (some (.agg #[.int .i64 0, .string ByteArray.empty, .string ByteArray.empty, .int .i64 0, .string ByteArray.empty, .int .i64 0, .int .i64 0, .int .i64 0, .bool false]), 9, 96) := by kernel_rfl
theorem infoF68 : (Tryf.prog.info? 68).map (fun i => (i.zero, i.size, i.bytes)) = some (some (.agg #[.string ByteArray.empty, .int .i64 0]), 2, 24) := by kernel_rfl
theorem infoF9 : (Tryf.prog.info? 9).map (fun i => (i.zero, i.size, i.bytes)) = some (some (.string ByteArray.empty), 1, 16) := by kernel_rfl
theorem infoF3 : (Tryf.prog.info? 3).map (fun i => (i.zero, i.size, i.bytes)) = some (some (.int .i64 0), 1, 8) := by kernel_rfl

/-- An event's cells, as the law has it. -/
def evA (e : PEv) (vt vn vm vb : Value) : Array Value :=
  #[.int .i64 e.kind, .string e.oly, .int .i64 e.at_, .string e.team, vt, .int .i64 e.task, .string e.comp, .bool e.force, .int .i64 e.sub, .int .i64 e.res, vn, vm, .int .i64 e.left, .bool e.frozen, vb, .int .i64 e.off, .int .i64 e.size]

/-- What applyStep returns. -/
def StepPost (w : World) (F : Nat → Prop) (Ls : List PLed) (r : Bool) (e : Ending) (w' : World) : Prop :=
  ∃ v x b, e = .returned (.tuple #[v, .bool b]) ∧ b = r ∧ IsMod w' v Ls x ∧ Framed w F w' (foot v Ls.length x)

/-- The model with the event's olympiad among its ledgers, at place i. -/
def Mid (W : World) (F : Nat → Prop) (Ls : List PLed) (nm : ByteArray) (v0 v6 : Value) (wx : World) : Prop :=
  ∃ g cap i x, v0 = .slice (some ⟨g, 0, none⟩) (withL Ls nm).length cap ∧ v6 = .int .i64 (i : Nat) ∧ i = placeOf Ls nm ∧ IsMod wx v0 (withL Ls nm) x ∧ Framed W F wx (foot v0 (withL Ls nm).length x)

theorem Mid.found {W wx : World} {Ls : List PLed} {nm : ByteArray} {v : Value} {k : Nat} {x : Nat → Nat → Value} (h : IsMod W v Ls x) (hq : Quiet W wx) (hk : k < Ls.length) (hno : ∀ j, j < k → eqS (ledAt Ls j).name nm = false) (hyes : eqS (ledAt Ls k).name nm = true) : Mid W (foot v Ls.length x) Ls nm v (.int .i64 k) wx := by
  have hp : placeOf Ls nm = k := placeOf_found (ledAt_eq hk) hyes (fun j l' hj hl => by
    have := ledAt_eq (Nat.lt_trans hj hk)
    rw [this] at hl
    cases hl
    exact hno j hj)
  have hw : withL Ls nm = Ls := by unfold withL; rw [if_pos (by omega)]
  rcases h.row.form (by omega) with ⟨g, cap, rfl, _⟩
  refine ⟨g, cap, k, x, by rw [hw], rfl, hp.symm, ?_, ?_⟩
  · rw [hw]
    exact h.frame (fun b _ => by rw [hq.heap])
  · rw [hw]
    exact Framed.ofBelow (hq.below W.heap.size) (Nat.le_refl _)

theorem Mid.pushed {W w1 : World} {Ls : List PLed} {nm : ByteArray} {v : Value} {x : Nat → Nat → Value} {g cap H : Nat} {o : Obj} (h : IsMod W v Ls x) {wq : World} (hq : Quiet W wq) (hno : ∀ j, j < Ls.length → eqS (ledAt Ls j).name nm = false)
    (hown : w1.ownsRow 0 43 13 (.slice (some ⟨g, 0, none⟩) (Ls.length + 1) cap) (Ls.length + 1) (rows Ls.length (fun i => mrC (MR.of (ledAt Ls i)) (x i)) ++ mrC (MR.fresh nm) (fun _ => .slice none 0 0)))
    (hgr : (wq.alloc o).grownBy w1 v.ownBlock) (hat : v.ownBlock = some g ∨ g = H) (hH : H = wq.heap.size + 1) : Mid W (foot v Ls.length x) Ls nm (.slice (some ⟨g, 0, none⟩) (Ls.length + 1) cap) (.int .i64 Ls.length) w1 := by
  have hp : placeOf Ls nm = Ls.length := placeOf_none (fun j l' hl => by
    have hj := (List.getElem?_eq_some_iff.1 hl).1
    have := ledAt_eq hj
    rw [this] at hl
    cases hl
    exact hno j hj)
  have hw : withL Ls nm = Ls ++ [PLed.fresh nm] := by unfold withL; rw [if_neg (by omega)]
  have hl : (withL Ls nm).length = Ls.length + 1 := by rw [hw]; simp
  have hs : wq.heap.size = W.heap.size := by rw [hq.heap]
  have hgr2 : W.grownBy w1 v.ownBlock := ⟨hgr.os.trans hq.os, hgr.tape.trans hq.tape, hgr.output.trans hq.output, by have := hgr.size; simp at this; omega, fun k hk hne => (hgr.block k (by simp; omega) hne).trans ((Below.heap_alloc _ _ _ (by omega)).trans (by rw [hq.heap]))⟩
  have hP := ModAt.push h hgr2 hown (by
    rcases hat with h1 | h1
    · exact Or.inl h1
    · exact Or.inr (by omega))
  refine ⟨g, cap, Ls.length, put1 x Ls.length (fun _ => .slice none 0 0), by rw [hl], rfl, hp.symm, ?_, ?_⟩
  · rw [hw]
    exact IsMod.push hP.1
  · rw [hl]
    exact hP.2

/-- What the search for the olympiad finds. -/
def Scan (Ls : List PLed) (nm : ByteArray) (z : Int) : Prop :=
  (∃ k : Nat, z = k ∧ k < Ls.length ∧ (∀ j, j < k → eqS (ledAt Ls j).name nm = false) ∧ eqS (ledAt Ls k).name nm = true) ∨ (z = -1 ∧ ∀ j, j < Ls.length → eqS (ledAt Ls j).name nm = false)

theorem StepPost.fin {w w' : World} {F : Nat → Prop} {Ls : List PLed} {e : PEv} {i l g cap : Nat} {m : PLed} {M' : MR} {x' : Nat → Nat → Value} {b : Bool}
    (hM : ModAt w' (.slice (some ⟨g, 0, none⟩) l cap) l (put1 (fun i => MR.of (ledAt (withL Ls e.oly) i)) i M') x') (hF : Framed w F w' (foot (.slice (some ⟨g, 0, none⟩) l cap) l x')) (hl : l = (withL Ls e.oly).length) (hi : i < l)
    (hS : stepAll Ls e = (withL Ls e.oly).set i (m.step e)) (hR : refAll Ls e = m.refB e) (hE : M'.Eq6 (MR.of (m.step e))) (hb : b = m.refB e) : StepPost w F (stepAll Ls e) (refAll Ls e) (.returned (.tuple #[.slice (some ⟨g, 0, none⟩) l cap, .bool b])) w' := by
  subst hl
  refine ⟨_, x', b, rfl, by rw [hb, hR], ?_, ?_⟩
  · rw [hS]
    exact ModAt.isMod hM hi hE
  · rw [hS, List.length_set]
    exact hF

theorem Eq6_cases {a b : MR} (h0 : ∀ x, mrC a x = mrC b x) (hk : a.k 0 = b.k 0 ∧ a.k 1 = b.k 1 ∧ a.k 2 = b.k 2 ∧ a.k 3 = b.k 3 ∧ a.k 4 = b.k 4 ∧ a.k 5 = b.k 5) (hc : a.c 0 = b.c 0 ∧ a.c 1 = b.c 1 ∧ a.c 2 = b.c 2 ∧ a.c 3 = b.c 3 ∧ a.c 4 = b.c 4 ∧ a.c 5 = b.c 5) : a.Eq6 b := by
  refine ⟨h0, fun f hf => ?_, fun f hf => ?_⟩
  · obtain ⟨h1, h2, h3, h4, h5, h6⟩ := hk
    rcases (show f = 0 ∨ f = 1 ∨ f = 2 ∨ f = 3 ∨ f = 4 ∨ f = 5 by omega) with rfl | rfl | rfl | rfl | rfl | rfl <;> assumption
  · obtain ⟨h1, h2, h3, h4, h5, h6⟩ := hc
    rcases (show f = 0 ∨ f = 1 ∨ f = 2 ∨ f = 3 ∨ f = 4 ∨ f = 5 by omega) with rfl | rfl | rfl | rfl | rfl | rfl <;> assumption

theorem refB_not {m : PLed} {e : PEv} (h : e.kind ≠ 3) : m.refB e = false := by
  unfold PLed.refB
  rw [decide_eq_false h]
  rfl

theorem same_eq6 (m : PLed) (e : PEv) (h : m.step e = m) : (MR.of m).Eq6 (MR.of (m.step e)) := by rw [h]; exact MR.Eq6.refl _
end Go.Proofs.Qxb6616853aFmt
