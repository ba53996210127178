import Derived.WalkKit
namespace Go.Proofs.Qxb6617193a

/-- One token: the depth behind it. -/
def stepD (c : Int) (d : Nat) : Nat := if c = 12 ∨ c = 14 then d + 1 else if c = 13 ∨ c = 15 then d - 1 else d

/-- Where skipDeclaration lands: from i on, f tokens ahead of the end of the file, at depth d. -/
def skipG (K : Nat → Int) : Nat → Nat → Nat → Nat
  | 0, i, _ => i
  | f + 1, i, d => if K i = 4 ∧ d = 0 then i + 1 else skipG K f (i + 1) (stepD (K i) d)

theorem skipG_stop {K : Nat → Int} {f i d : Nat} (h : K i = 4) (hd : d = 0) : skipG K (f + 1) i d = i + 1 := by rw [skipG, if_pos ⟨h, hd⟩]
theorem skipG_go {K : Nat → Int} {f i d : Nat} (h : ¬ (K i = 4 ∧ d = 0)) : skipG K (f + 1) i d = skipG K f (i + 1) (stepD (K i) d) := by rw [skipG, if_neg h]

/-- The balance, and its least so far. -/
def stepB (c bal : Int) : Int := if c = 12 ∨ c = 14 then bal + 1 else if c = 13 ∨ c = 15 then bal - 1 else bal
def stepL (c bal low : Int) : Int := if c = 13 ∨ c = 15 then (if bal - 1 < low then bal - 1 else low) else low

def outG (K : Nat → Int) : Nat → Nat → Int → Int → Nat
  | 0, i, _, _ => i
  | f + 1, i, bal, low => if K i = 4 ∧ bal = low then i + 1 else outG K f (i + 1) (stepB (K i) bal) (stepL (K i) bal low)

theorem outG_stop {K : Nat → Int} {f i : Nat} {bal low : Int} (h : K i = 4) (hd : bal = low) : outG K (f + 1) i bal low = i + 1 := by rw [outG, if_pos ⟨h, hd⟩]
theorem outG_go {K : Nat → Int} {f i : Nat} {bal low : Int} (h : ¬ (K i = 4 ∧ bal = low)) : outG K (f + 1) i bal low = outG K f (i + 1) (stepB (K i) bal) (stepL (K i) bal low) := by rw [outG, if_neg h]

/-- THE PLAIN LAW of the first statement: the depth is the balance over its least. -/
theorem skip_out (K : Nat → Int) : ∀ (f i d : Nat) (bal low : Int), (d : Int) = bal - low → skipG K f i d = outG K f i bal low
  | 0, _, _, _, _, _ => rfl
  | f + 1, i, d, bal, low, h => by
    by_cases hs : K i = 4 ∧ d = 0
    · rw [skipG_stop hs.1 hs.2, outG_stop hs.1 (by omega)]
    · rw [skipG_go hs, outG_go (fun h' => hs ⟨h'.1, by omega⟩)]
      apply skip_out K f
      unfold stepD stepB stepL
      by_cases h1 : K i = 12 ∨ K i = 14
      · rw [if_pos h1, if_pos h1, if_neg (by omega)]; omega
      · rw [if_neg h1, if_neg h1]
        by_cases h2 : K i = 13 ∨ K i = 15
        · rw [if_pos h2, if_pos h2, if_pos h2]
          by_cases h3 : bal - 1 < low
          · rw [if_pos h3]; omega
          · rw [if_neg h3]; omega
        · rw [if_neg h2, if_neg h2, if_neg h2]; omega

/-- A list shifted by P lands P further. -/
theorem skip_shift (K K2 : Nat → Int) (P : Nat) (hK : ∀ j, K2 (P + j) = K j) : ∀ (f i d : Nat), (skipG K2 f (P + i) d) = P + skipG K f i d
  | 0, _, _ => rfl
  | f + 1, i, d => by
    by_cases hs : K i = 4 ∧ d = 0
    · rw [skipG_stop hs.1 hs.2, skipG_stop (by rw [hK]; exact hs.1) hs.2]; omega
    · rw [skipG_go hs, skipG_go (by rw [hK]; exact hs), hK]
      exact skip_shift K K2 P hK f (i + 1) _

/-- Only the tokens from i to i + f count. -/
theorem skip_congr (K K2 : Nat → Int) : ∀ (f i d : Nat), (∀ j, i ≤ j → j < i + f → K j = K2 j) → skipG K f i d = skipG K2 f i d
  | 0, _, _, _ => rfl
  | f + 1, i, d, h => by
    have h0 := h i (Nat.le_refl _) (by omega)
    by_cases hs : K i = 4 ∧ d = 0
    · rw [skipG_stop hs.1 hs.2, skipG_stop (by rw [← h0]; exact hs.1) hs.2]
    · rw [skipG_go hs, skipG_go (by rw [← h0]; exact hs), h0]
      exact skip_congr K K2 f (i + 1) _ (fun j h1 h2 => h j (by omega) (by omega))

/-- Where it lands: within, and just behind a semicolon unless at the end. -/
theorem skip_lands (K : Nat → Int) : ∀ (f i d : Nat), i ≤ skipG K f i d ∧ skipG K f i d ≤ i + f ∧ (0 < f → i < skipG K f i d) ∧ (skipG K f i d = i + f ∨ (1 ≤ skipG K f i d ∧ K (skipG K f i d - 1) = 4))
  | 0, i, _ => ⟨Nat.le_refl _, Nat.le_refl _, fun h => absurd h (by omega), Or.inl rfl⟩
  | f + 1, i, d => by
    by_cases hs : K i = 4 ∧ d = 0
    · rw [skipG_stop hs.1 hs.2]
      exact ⟨by omega, by omega, fun _ => by omega, Or.inr ⟨by omega, by simpa using hs.1⟩⟩
    · rw [skipG_go hs]
      obtain ⟨h1, h2, _, h4⟩ := skip_lands K f (i + 1) (stepD (K i) d)
      refine ⟨by omega, by omega, fun _ => by omega, ?_⟩
      rcases h4 with h4 | h4
      · exact Or.inl (by omega)
      · exact Or.inr h4

end Go.Proofs.Qxb6617193a
