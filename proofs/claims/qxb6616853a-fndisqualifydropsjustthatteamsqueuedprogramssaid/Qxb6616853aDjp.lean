import Derived.Test.Qxb6616853aTwo
namespace Go.Proofs.Qxb6616853a
open Go.RowKit

/-! The plain law of the third statement. -/
def keep1 (S : Nat → ByteArray) (code : ByteArray) (i : Nat) : Bool := !eqS (S i) code
def cnt1 (S : Nat → ByteArray) (code : ByteArray) (k : Nat) : Nat := ((List.range k).filter (keep1 S code)).length

theorem cnt1_yes {S : Nat → ByteArray} {c : ByteArray} {k : Nat} (h : keep1 S c k = true) : cnt1 S c (k + 1) = cnt1 S c k + 1 := by
  unfold cnt1
  rw [List.range_succ, List.filter_append]
  simp [h]
theorem cnt1_no {S : Nat → ByteArray} {c : ByteArray} {k : Nat} (h : keep1 S c k = false) : cnt1 S c (k + 1) = cnt1 S c k := by
  unfold cnt1
  rw [List.range_succ, List.filter_append]
  simp [h]
theorem cnt1_le (S : Nat → ByteArray) (c : ByteArray) (k : Nat) : cnt1 S c k ≤ k := by
  unfold cnt1
  exact Nat.le_trans (List.length_filter_le _ _) (by simp)

theorem queue_one (S : Nat → ByteArray) (n : Nat) (c : ByteArray) : dropQ (Tl S n) c (List.range n) = (List.range n).filter (keep1 S c) := by
  have e : List.range n = (List.range n).filter (fun _ => true) := (List.filter_eq_self.2 (fun _ _ => rfl)).symm
  conv => lhs; rw [e]
  rw [drop_range]
  rfl

/-- The kept place i stands in the queue at as many as are kept before it. -/
theorem queue_get (S : Nat → ByteArray) (c : ByteArray) (i : Nat) (hk : keep1 S c i = true) : ∀ n, i < n → ((List.range n).filter (keep1 S c))[cnt1 S c i]? = some i
  | 0, h => absurd h (Nat.not_lt_zero _)
  | n + 1, h => by
    rw [List.range_succ, List.filter_append]
    by_cases hi : i < n
    · have ih := queue_get S c i hk n hi
      rw [List.getElem?_append_left (List.getElem?_eq_some_iff.1 ih).1]
      exact ih
    · obtain rfl : i = n := by omega
      rw [List.getElem?_append_right (by unfold cnt1; exact Nat.le_refl _)]
      simp [cnt1, hk]

/-- The codes that have been disqualified so far. -/
def Dk (E : Nat → ByteArray) : Nat → List ByteArray
  | 0 => []
  | k + 1 => addS (Dk E k) (E k)

theorem mem_addS {D : List ByteArray} {s t : ByteArray} : t ∈ addS D s ↔ t ∈ D ∨ t = s := by
  by_cases h : s ∈ D
  · rw [addS_old h]
    exact ⟨Or.inl, fun h' => h'.elim id (fun e => e ▸ h)⟩
  · rw [addS_new h]
    simp

theorem mem_Dk {E : Nat → ByteArray} {s : ByteArray} : ∀ {k : Nat}, s ∈ Dk E k ↔ ∃ j, j < k ∧ E j = s
  | 0 => by simp [Dk]
  | k + 1 => by
    rw [Dk, mem_addS, mem_Dk]
    constructor
    · rintro (⟨j, hj, he⟩ | rfl)
      · exact ⟨j, by omega, he⟩
      · exact ⟨k, by omega, rfl⟩
    · rintro ⟨j, hj, he⟩
      by_cases hjk : j = k
      · subst hjk; exact Or.inr he.symm
      · exact Or.inl ⟨j, by omega, he⟩

/-- The count of distinct codes among the first k and 'code'. -/
def dist (E : Nat → ByteArray) (code : ByteArray) (k : Nat) : Nat := (addS (Dk E k) code).length

theorem dist_zero (E : Nat → ByteArray) (code : ByteArray) : dist E code 0 = 1 := by
  unfold dist
  rw [Dk, addS_nil]
  rfl

theorem dist_code {E : Nat → ByteArray} {code : ByteArray} {k : Nat} (h : eqS (E k) code = true) : dist E code (k + 1) = dist E code k := by
  have he := eqS_iff.1 h
  unfold dist
  rw [Dk, he, addS_old (addS_mem (D := Dk E k) (s := code))]

theorem dist_seen {E : Nat → ByteArray} {code : ByteArray} {k j : Nat} (hj : j < k) (h : eqS (E j) (E k) = true) : dist E code (k + 1) = dist E code k := by
  unfold dist
  rw [Dk, addS_old (mem_Dk.2 ⟨j, hj, eqS_iff.1 h⟩)]

theorem dist_new {E : Nat → ByteArray} {code : ByteArray} {k : Nat} (h : eqS (E k) code = false) (hn : ∀ j, j < k → eqS (E j) (E k) = false) : dist E code (k + 1) = dist E code k + 1 := by
  have h1 : E k ≠ code := fun e => by rw [eqS_iff.2 e] at h; cases h
  have h2 : ¬ E k ∈ Dk E k := fun hm => by
    obtain ⟨j, hj, he⟩ := mem_Dk.1 hm
    have := hn j hj
    rw [eqS_iff.2 he] at this
    cases this
  unfold dist
  rw [Dk, addS_new h2]
  by_cases hc : code ∈ Dk E k
  · rw [addS_old (by simp [hc]), addS_old hc]
    simp
  · rw [addS_new (by simp only [List.mem_append, List.mem_singleton]; rintro (h3 | h3); exact hc h3; exact h1 h3.symm), addS_new hc]
    simp

theorem dist_le (E : Nat → ByteArray) (code : ByteArray) : ∀ k, dist E code k ≤ k + 1
  | 0 => by rw [dist_zero]; omega
  | k + 1 => by
    have ih := dist_le E code k
    unfold dist at *
    rw [Dk]
    by_cases h : E k ∈ Dk E k
    · rw [addS_old h]; omega
    · rw [addS_new h]
      by_cases hc : code ∈ Dk E k
      · rw [addS_old hc] at ih
        rw [addS_old (by simp [hc])]
        simp
        omega
      · rw [addS_new hc] at ih
        by_cases hc2 : code ∈ Dk E k ++ [E k]
        · rw [addS_old hc2]
          simp at ih ⊢
          omega
        · rw [addS_new hc2]
          simp at ih ⊢
          omega
end Go.Proofs.Qxb6616853a
