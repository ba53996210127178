import Derived.Test.Qxb6616853aHd
import Derived.Laws.CopyOwn
namespace Go.Proofs.Qxb6616853a
open Go.RowKit

/-- The strings S lo, S (lo + 1), .. as cells. -/
def strF (lo n : Nat) (S : Nat → ByteArray) : List Value := (List.range n).map fun i => .string (S (lo + i))

theorem strF_length (lo n : Nat) (S : Nat → ByteArray) : (strF lo n S).length = n := by simp [strF]

theorem strF_get {lo n : Nat} {S : Nat → ByteArray} {i : Nat} (h : i < n) : (strF lo n S)[i]? = some (.string (S (lo + i))) := by
  simp [strF, h]

theorem strF_oneCell (lo n : Nat) (S : Nat → ByteArray) : ∀ u ∈ strF lo n S, u.oneCell' = true := by
  intro u hu
  obtain ⟨_, _, rfl⟩ := List.mem_map.1 hu
  rfl

theorem info9 : (Try.prog.info? 9).map (fun i => (i.zero, i.size, i.bytes)) = some (some (.string ByteArray.empty), 1, 16) := by kernel_rfl

/-- The cells of a part of a slice of strings lie where an append or a copy looks for them. -/
theorem IsStrs.cells {w : World} {a : Option Addr} {len cap : Nat} {S : Nat → ByteArray} (h : IsStrs w a len cap S) (lo n : Nat) (hn : lo + n ≤ len) {ao : Option Addr} (hao : ∀ b off, a = some ⟨b, off, none⟩ → ¬ cap = lo → ao = some ⟨b, off + lo, none⟩) :
    ∀ ad, ao = some ad → ∀ j u, (strF lo n S)[j]? = some u → w.cell? (ad.add j) = some u := by
  intro ad had j u hu
  have hj : j < n := by
    have := (List.getElem?_eq_some_iff.1 hu).1
    simpa [strF] using this
  obtain ⟨h1, h2, _, _, h5⟩ := h
  obtain ⟨b, off, ha, _, hc⟩ := h5 (lo + j) (by omega)
  rw [hao b off ha (by omega)] at had
  obtain rfl := Option.some.inj had
  rw [Addr.add_lit, Nat.add_assoc, hc, ← hu, strF_get hj]

/-- A row of the call's own that holds strings is a slice of strings. -/
theorem IsStrs.ofBlk {w : World} {g : Nat} {L : List Value} {len cap : Nat} {S : Nat → ByteArray} (hb : Blk w g L.toArray 9) (hc : len ≤ cap) (hm : cap ≤ maxLen) (hz : ∀ i, (S i).size ≤ maxLen)
    (hL : ∀ i, i < len → L[i]? = some (.string (S i))) : IsStrs w (some ⟨g, 0, none⟩) len cap S := by
  refine ⟨hc, hm, hz, by simp, fun i hi => ⟨g, 0, rfl, hb.lt, ?_⟩⟩
  rw [hb.cell]
  simpa using hL i hi

theorem IsStrs.below {w w' : World} {B : Nat} {a : Option Addr} {len cap : Nat} {S : Nat → ByteArray} (h : IsStrs w a len cap S) (hb : Below B w w') (hB : w.heap.size ≤ B) : IsStrs w' a len cap S := by
  obtain ⟨h1, h2, h3, h4, h5⟩ := h
  refine ⟨h1, h2, h3, h4, fun i hi => ?_⟩
  obtain ⟨b, off, ha, hlt, hc⟩ := h5 i hi
  exact ⟨b, off, ha, Nat.lt_of_lt_of_le hlt hb.size, (hb.cell (p := ⟨b, off + i, none⟩) (Nat.lt_of_lt_of_le hlt hB)).trans hc⟩

/-- What is behind an append or a make: old slices stay. -/
theorem IsStrs.grown {w w' : World} {row : Option Nat} {a : Option Addr} {len cap : Nat} {S : Nat → ByteArray} (h : IsStrs w a len cap S) (hg : w.grownBy w' row) (hr : ∀ b off k, a = some ⟨b, off, none⟩ → row = some k → b ≠ k) : IsStrs w' a len cap S := by
  obtain ⟨h1, h2, h3, h4, h5⟩ := h
  refine ⟨h1, h2, h3, h4, fun i hi => ?_⟩
  obtain ⟨b, off, ha, hlt, hc⟩ := h5 i hi
  refine ⟨b, off, ha, Nat.lt_of_lt_of_le hlt hg.size, ?_⟩
  exact (World.cell?_of_block (w := w) (a := ⟨b, off + i, none⟩) (hg.block b hlt (fun e => hr b off b ha e.symm rfl))).trans hc

theorem splice0_get {L cs : List Value} {i : Nat} (h : i < cs.length) : (splice L 0 cs)[i]? = cs[i]? := by
  unfold splice
  rw [List.take_zero, List.nil_append, List.getElem?_append_left h]

/-- S with s put in at place k. -/
def insS (k : Nat) (s : ByteArray) (S : Nat → ByteArray) : Nat → ByteArray := fun i => if i < k then S i else if i = k then s else S (i - 1)

theorem ins_get {k n : Nat} {s : ByteArray} {S : Nat → ByteArray} {i : Nat} (hi : i < k + 1 + n) : ((strF 0 k S ++ [.string s]) ++ strF k n S)[i]? = some (.string (insS k s S i)) := by
  unfold insS
  by_cases h1 : i < k
  · rw [List.getElem?_append_left (by simp [strF_length]; omega), List.getElem?_append_left (by simp [strF_length]; omega), strF_get h1, if_pos h1, Nat.zero_add]
  · rw [if_neg h1]
    by_cases h2 : i = k
    · subst h2
      rw [List.getElem?_append_left (by simp [strF_length]), List.getElem?_append_right (by simp [strF_length]), if_pos rfl]
      simp [strF_length]
    · rw [if_neg h2, List.getElem?_append_right (by simp [strF_length]; omega)]
      simp only [List.length_append, strF_length, List.length_singleton]
      rw [strF_get (by omega), show k + (i - (k + 1)) = i - 1 by omega]

theorem insS_size {k : Nat} {s : ByteArray} {S : Nat → ByteArray} (hs : s.size ≤ maxLen) (hS : ∀ i, (S i).size ≤ maxLen) : ∀ i, (insS k s S i).size ≤ maxLen := by
  intro i
  unfold insS
  split
  · exact hS _
  · split
    · exact hs
    · exact hS _

theorem IsStrs.ofOwn {w : World} {base g n cap : Nat} {xs : List Value} {S : Nat → ByteArray} (h : w.ownsRow base 9 1 (.slice (some ⟨g, 0, none⟩) n cap) n xs) (hc : n ≤ cap) (hm : cap ≤ maxLen) (hz : ∀ i, (S i).size ≤ maxLen)
    (hx : ∀ i, i < n → xs[i]? = some (.string (S i))) : IsStrs w (some ⟨g, 0, none⟩) n cap S := by
  refine ⟨hc, hm, hz, by simp, fun i hi => ⟨g, 0, rfl, (h.lt g rfl).2, ?_⟩⟩
  rw [Nat.zero_add, h.cellAt i (by omega), hx i hi]

theorem hasB_ins {k n : Nat} {s q : ByteArray} {S : Nat → ByteArray} : hasB (k + 1 + n) (insS k s S) q = (hasB (k + n) S q || eqS s q) := by
  unfold hasB
  rw [Bool.eq_iff_iff]
  simp only [List.any_eq_true, List.mem_range, Bool.or_eq_true]
  constructor
  · rintro ⟨i, hi, he⟩
    unfold insS at he
    by_cases h1 : i < k
    · rw [if_pos h1] at he
      exact Or.inl ⟨i, by omega, he⟩
    · rw [if_neg h1] at he
      by_cases h2 : i = k
      · rw [if_pos h2] at he
        exact Or.inr he
      · rw [if_neg h2] at he
        exact Or.inl ⟨i - 1, by omega, he⟩
  · rintro (⟨i, hi, he⟩ | he)
    · by_cases h1 : i < k
      · exact ⟨i, by omega, by unfold insS; rw [if_pos h1]; exact he⟩
      · exact ⟨i + 1, by omega, by unfold insS; rw [if_neg (by omega), if_neg (by omega)]; exact he⟩
    · exact ⟨k, by omega, by unfold insS; rw [if_neg (by omega), if_pos rfl]; exact he⟩

theorem eqS_self (s : ByteArray) : eqS s s = true := by simp [eqS]
theorem eqS_comm (s q : ByteArray) : eqS s q = eqS q s := by
  unfold eqS
  rw [Bool.eq_iff_iff, beq_iff_eq, beq_iff_eq]
  exact ⟨fun h => h.symm, fun h => h.symm⟩

/-- The slot that holds S with s put in at k, in a row of the call's own at block we.heap.size. -/
def InsSlot (we : World) (len k : Nat) (s : ByteArray) (S : Nat → ByteArray) (v : Value) (wx : World) : Prop :=
  v = .slice (some ⟨we.heap.size, 0, none⟩) (len + 1) (len + 1) ∧ (s.size ≤ maxLen → (∀ i, (S i).size ≤ maxLen) → len + 1 ≤ maxLen → IsStrs wx (some ⟨we.heap.size, 0, none⟩) (len + 1) (len + 1) (insS k s S)) ∧ Below we.heap.size we wx

theorem InsSlot.mk {we wx : World} {base len k : Nat} {s : ByteArray} {S : Nat → ByteArray} (hk : k ≤ len)
    (h : wx.ownsRow base 9 1 (.slice (some ⟨we.heap.size, 0, none⟩) (k + 1 + (len - k)) (len + 1)) (k + 1 + (len - k)) ((strF 0 k S ++ [.string s]) ++ strF k (len - k) S)) (hb : Below we.heap.size we wx) :
    InsSlot we len k s S (.slice (some ⟨we.heap.size, 0, none⟩) (k + 1 + (len - k)) (len + 1)) wx := by
  have e : k + 1 + (len - k) = len + 1 := by omega
  rw [e] at h ⊢
  refine ⟨rfl, fun hs hS hl => IsStrs.ofOwn h (Nat.le_refl _) hl (insS_size hs hS) (fun i hi => ins_get (by omega)), hb⟩

theorem IsStrs.tail_none {w : World} {a : Option Addr} {len cap k : Nat} {S : Nat → ByteArray} (h : IsStrs w a len cap S) {f : Addr → Addr} (h1 : Option.map f a = none) : len - k = 0 ∧ cap - k = 0 := by
  have h4 := h.2.2.2.1
  cases a with
  | none => have := h4 rfl; omega
  | some x => simp at h1

theorem IsStrs.whole_none {w : World} {a : Option Addr} {len cap k : Nat} {S : Nat → ByteArray} (h : IsStrs w a len cap S) (h1 : a = none) : len - k = 0 ∧ cap - k = 0 := by
  have := h.2.2.2.1 h1
  omega

end Go.Proofs.Qxb6616853a
