import Derived.Test.Qxb6616853aFmtSet
import Derived.Test.Qxb6616853aFmtSub
import Derived.Deep.RegionHeld3
import Derived.Deep.RegionWith
import Derived.Deep.CutRange
import Derived.Deep.DrawnRows
import Derived.BigQuiet
import Derived.Deep.QuietTactic
import Derived.Lib.SliceRun
import Derived.Carry
namespace Go.Proofs.Qxb6616853aFmt
open Go.RowKit
attribute [local go_sem ↓] Go.wp_at_zero Go.wp_at_succ

/-- No block has turned, none is new: a draw at most. -/
structure Quiet (w w' : World) : Prop where
  heap : w'.heap = w.heap
  os : w'.os = w.os
  tape : w'.tape = w.tape
  output : w'.output = w.output

theorem Quiet.refl (w : World) : Quiet w w := ⟨rfl, rfl, rfl, rfl⟩
theorem Quiet.trans {a b c : World} (h : Quiet a b) (k : Quiet b c) : Quiet a c := ⟨k.heap.trans h.heap, k.os.trans h.os, k.tape.trans h.tape, k.output.trans h.output⟩
theorem Quiet.below {w w' : World} (h : Quiet w w') (B : Nat) : Below B w w' := ⟨h.os, h.tape, h.output, by rw [h.heap]; exact Nat.le_refl _, fun k _ => by rw [h.heap]⟩
theorem Quiet.grown {w w' : World} (h : Quiet w w') (row : Option Nat) : w.grownBy w' row := ⟨h.os, h.tape, h.output, by rw [h.heap]; exact Nat.le_refl _, fun k _ _ => by rw [h.heap]⟩
theorem Quiet.cell {w w' : World} (h : Quiet w w') (a : Addr) : w'.cell? a = w.cell? a := World.cell?_of_block (by rw [h.heap])
theorem Quiet.blk {w w' : World} (h : Quiet w w') {g : Nat} {C : Array Value} {t : TypeId} (hb : Blk w g C t) : Blk w' g C t := by unfold Blk; rw [h.heap]; exact hb

def EqPost (t code : ByteArray) (w : World) (e : Ending) (w' : World) : Prop := e = .returned (.bool (eqS t code)) ∧ Quiet w w'

/-- The closure of disqualify: 'sub.team == code'. -/
theorem clos_any (p B : Nat) (t code : ByteArray) (w : World) (hp : w.cell? ⟨p, 2, none⟩ = some (.string t)) (hB : w.cell? ⟨B, 0, none⟩ = some (.string code)) :
    Calls Tryf.prog 54 #[.pointer (some ⟨p, 0, none⟩), .pointer (some ⟨B, 0, none⟩)] w (EqPost t code w) := by
  go_enter Tryf.func54, Tryf.ntmps54
  go_wp2
  go_region
  go_wp2
  go_ret
  exact ⟨rfl, ⟨rfl, rfl, rfl, rfl⟩⟩

/-- An element of the queue: a submission's block, and its team. -/
def pv (x : Nat × ByteArray) : Value := .pointer (some ⟨x.1, 0, none⟩)

/-- What is kept. -/
def keepB (code : ByteArray) (x : Nat × ByteArray) : Bool := !eqS x.2 code

def IdxFPost (Qs : List (Nat × ByteArray)) (code : ByteArray) (w : World) (e : Ending) (w' : World) : Prop :=
  ∃ r : Int, e = .returned (.int .i64 r) ∧ Quiet w w' ∧ ((r = -1 ∧ ∀ x ∈ Qs, keepB code x = true) ∨ ∃ k : Nat, r = k ∧ k < Qs.length ∧ (∀ x ∈ Qs.take k, keepB code x = true) ∧ ∀ x, Qs[k]? = some x → keepB code x = false)

theorem take_all {Qs : List (Nat × ByteArray)} {k : Nat} {code : ByteArray} (h : ∀ x ∈ Qs.take k, keepB code x = true) {y : Nat × ByteArray} (hy : Qs[k]? = some y) (hk : keepB code y = true) : ∀ x ∈ Qs.take (k + 1), keepB code x = true := by
  intro x hx
  rw [List.take_add_one, hy] at hx
  rcases List.mem_append.1 hx with hx | hx
  · exact h x hx
  · simp at hx
    rw [hx]
    exact hk

set_option maxHeartbeats 1000000 in
theorem indexF_any (a : Option Addr) (cap : Nat) (Qs : List (Nat × ByteArray)) (code : ByteArray) (B : Nat) (w : World) (hlen : Qs.length ≤ 4096)
    (hq : ∀ i x, Qs[i]? = some x → ∃ g, a = some ⟨g, 0, none⟩ ∧ w.cell? ⟨g, i, none⟩ = some (pv x) ∧ w.cell? ⟨x.1, 2, none⟩ = some (.string x.2)) (hB : w.cell? ⟨B, 0, none⟩ = some (.string code)) :
    Calls Tryf.prog 59 #[.slice a Qs.length cap, .func (.func 54) #[] #[.pointer (some ⟨B, 0, none⟩)]] w (IdxFPost Qs code w) := by
  obtain ⟨n, hn⟩ : ∃ n, n = Qs.length := ⟨_, rfl⟩
  rw [← hn] at hlen ⊢
  have HN : Hid (n = Qs.length) := hn
  clear hn
  go_enter Tryf.func59, Tryf.ntmps59
  go_wp2
  go_loopw [8] (fun i wr => ∃ k : Nat, k ≤ n ∧ i = .int .i64 k ∧ (∀ x ∈ Qs.take k, keepB code x = true) ∧ Quiet w wr) (fun i _ => n - (intOf i).toNat)
  case atStart => exact ⟨0, Nat.zero_le _, rfl, by simp, Quiet.refl _⟩
  case round =>
    obtain ⟨k, hk, rfl, hno, hqt⟩ := hrel
    have HNO : Hid (∀ x ∈ Qs.take k, keepB code x = true) := hno
    clear hno
    by_cases hlt : k < n
    · obtain ⟨x, hx⟩ : ∃ x, Qs[k]? = some x := ⟨_, List.getElem?_eq_getElem (by rw [← HN.out]; exact hlt)⟩
      obtain ⟨g, rfl, hc1, hc2⟩ := hq k x hx
      rw [← hqt.cell] at hc1 hc2
      have hBr := hB
      rw [← hqt.cell] at hBr
      have HX : Hid (Qs[k]? = some x) := hx
      clear hx hq hB
      unfold pv at hc1
      go_wp2_with fail
      refine (clos_any x.1 B x.2 code _ hc2 hBr).mono ?_
      rintro e w1 ⟨rfl, hq1⟩
      cases he : eqS x.2 code
      · go_wp2
        go_roundw
        case rel => exact ⟨k + 1, by omega, by go_num, take_all HNO.out HX.out (by unfold keepB; rw [he]; rfl), hqt.trans hq1⟩
        case measure => simp [intOf]; omega
      · go_wp2
        go_ret
        exact ⟨_, rfl, hqt.trans hq1, Or.inr ⟨k, rfl, by rw [← HN.out]; exact hlt, HNO.out, fun y hy => by rw [HX.out] at hy; cases hy; unfold keepB; rw [he]; rfl⟩⟩
    · obtain rfl : k = n := by omega
      clear hq hB
      go_wp2
      go_ret
      refine ⟨_, rfl, hqt, Or.inl ⟨rfl, fun x hx => HNO.out x ?_⟩⟩
      rw [List.take_of_length_le (by rw [← HN.out]; exact Nat.le_refl _)]
      exact hx
/-- DeleteFunc's row in the midst: i elements are kept out of the first j. -/
def DelRow (w : World) (g cap : Nat) (Qs : List (Nat × ByteArray)) (code : ByteArray) (i j : Nat) : Prop :=
  ∃ C, Blk w g C 110 ∧ C.size = cap ∧ i = ((Qs.take j).filter (keepB code)).length ∧ C.toList.take i = ((Qs.take j).filter (keepB code)).map pv ∧ ∀ m x, j ≤ m → Qs[m]? = some x → C[m]? = some (pv x)

theorem filter_take_le (Qs : List (Nat × ByteArray)) (code : ByteArray) (j : Nat) : ((Qs.take j).filter (keepB code)).length ≤ j :=
  Nat.le_trans (List.length_filter_le _ _) (List.length_take_le _ _)

theorem DelRow.keep {w : World} {g cap : Nat} {Qs : List (Nat × ByteArray)} {code : ByteArray} {i j : Nat} {x : Nat × ByteArray} (h : DelRow w g cap Qs code i j) (hx : Qs[j]? = some x) (hk : keepB code x = true) (hc : Qs.length ≤ cap) :
    DelRow (w.setCell ⟨g, i, none⟩ (pv x)) g cap Qs code (i + 1) (j + 1) := by
  obtain ⟨C, h1, h2, h3, h4, h5⟩ := h
  have hj := (List.getElem?_eq_some_iff.1 hx).1
  have hij := filter_take_le Qs code j
  have hf : (Qs.take (j + 1)).filter (keepB code) = (Qs.take j).filter (keepB code) ++ [x] := by
    rw [List.take_add_one, hx, List.filter_append]
    simp [hk]
  refine ⟨_, h1.set i _, by simpa using h2, by rw [hf, List.length_append]; simp [← h3], ?_, fun m y hm hy => ?_⟩
  · rw [hf, List.map_append, ← h4]
    have hi : i < C.toList.length := by simp; omega
    rw [List.take_add_one]
    simp only [Array.toList_setIfInBounds]
    rw [List.take_set_of_le (Nat.le_refl _), List.getElem?_set_self hi]
    rfl
  · rw [Array.getElem?_setIfInBounds_ne (by omega)]
    exact h5 m y (by omega) hy

theorem DelRow.drop {w : World} {g cap : Nat} {Qs : List (Nat × ByteArray)} {code : ByteArray} {i j : Nat} {x : Nat × ByteArray} (h : DelRow w g cap Qs code i j) (hx : Qs[j]? = some x) (hk : keepB code x = false) :
    DelRow w g cap Qs code i (j + 1) := by
  obtain ⟨C, h1, h2, h3, h4, h5⟩ := h
  have hf : (Qs.take (j + 1)).filter (keepB code) = (Qs.take j).filter (keepB code) := by
    rw [List.take_add_one, hx, List.filter_append]
    simp [hk]
  exact ⟨C, h1, h2, by rw [hf]; exact h3, by rw [hf]; exact h4, fun m y hm hy => h5 m y (by omega) hy⟩

theorem DelRow.quiet {w w' : World} {g cap : Nat} {Qs : List (Nat × ByteArray)} {code : ByteArray} {i j : Nat} (h : DelRow w g cap Qs code i j) (hq : Quiet w w') : DelRow w' g cap Qs code i j := by
  obtain ⟨C, h1, h2⟩ := h
  exact ⟨C, hq.blk h1, h2⟩

end Go.Proofs.Qxb6616853aFmt
