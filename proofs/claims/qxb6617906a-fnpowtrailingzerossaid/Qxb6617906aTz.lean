import Derived.Test.Qxb6617906aPlain
namespace Go.Proofs.Qxb6617906a

/-- How often v can be halved, at most f times. -/
def tzN : Nat → Nat → Nat
  | 0, _ => 0
  | f + 1, v => if v % 2 = 0 then tzN f (v / 2) + 1 else 0

theorem tzN_le : ∀ f v, tzN f v ≤ f
  | 0, _ => Nat.le_refl _
  | f + 1, v => by
    unfold tzN
    split
    · have := tzN_le f (v / 2); omega
    · omega

theorem tzN_spec : ∀ f v, ∃ u, v = 2 ^ tzN f v * u ∧ (tzN f v < f → u % 2 = 1)
  | 0, v => ⟨v, by simp [tzN], fun h => absurd h (Nat.not_lt_zero _)⟩
  | f + 1, v => by
    unfold tzN
    by_cases h : v % 2 = 0
    · rw [if_pos h]
      obtain ⟨u, h1, h2⟩ := tzN_spec f (v / 2)
      refine ⟨u, ?_, fun hh => h2 (by omega)⟩
      rw [Nat.pow_succ, Nat.mul_comm (2 ^ _) 2, Nat.mul_assoc, ← h1]
      omega
    · rw [if_neg h]
      exact ⟨v, by simp, fun _ => by omega⟩

theorem tzN_zero : ∀ f, tzN f 0 = f
  | 0 => rfl
  | f + 1 => by
    unfold tzN
    rw [if_pos (by omega), Nat.zero_div, tzN_zero f]

theorem tzN_mul : ∀ t f u, t ≤ f → u % 2 = 1 → tzN f (2 ^ t * u) = t
  | 0, 0, _, _, _ => rfl
  | 0, f + 1, u, _, hu => by
    unfold tzN
    rw [if_neg (by rw [Nat.pow_zero, Nat.one_mul]; omega)]
  | t + 1, 0, _, h, _ => by omega
  | t + 1, f + 1, u, h, hu => by
    unfold tzN
    have e : 2 ^ (t + 1) * u = 2 * (2 ^ t * u) := by rw [Nat.pow_succ, Nat.mul_comm (2 ^ t) 2, Nat.mul_assoc]
    rw [e, if_pos (by omega), show 2 * (2 ^ t * u) / 2 = 2 ^ t * u by omega, tzN_mul t f u (by omega) hu]

def tz (v : Nat) : Nat := tzN 64 v

/-- What the law expects. -/
def expTz (t n : Nat) : Nat := if n = 0 ∨ t = 0 then 0 else if 64 ≤ n then 64 else if 64 < t * n then 64 else t * n

theorem odd_pow (u n : Nat) (h : u % 2 = 1) : u ^ n % 2 = 1 := by
  rw [Nat.pow_mod, h, Nat.one_pow]

/-- THE PLAIN LAW. -/
theorem tz_pow (x n : Nat) : tz (powM x n) = expTz (tz x) n := by
  obtain ⟨u, h1, h2⟩ := tzN_spec 64 x
  have h3 := tzN_le 64 x
  unfold tz
  generalize tzN 64 x = t at *
  unfold expTz powM
  by_cases hn : n = 0
  · rw [if_pos (Or.inl hn), hn, Nat.pow_zero]
    unfold M64
    rfl
  · by_cases ht : t = 0
    · rw [if_pos (Or.inr ht)]
      have hu := h2 (by omega)
      rw [ht, Nat.pow_zero, Nat.one_mul] at h1
      subst h1
      have : x ^ n % M64 % 2 = 1 := by
        rw [show M64 = 2 * 2 ^ 63 by unfold M64; omega, Nat.mod_mul_right_mod, odd_pow x n hu]
      have e := tzN_mul 0 64 (x ^ n % M64) (by omega) this
      rw [Nat.pow_zero, Nat.one_mul] at e
      exact e
    · rw [if_neg (by omega)]
      have hxn : x ^ n = 2 ^ (t * n) * u ^ n := by rw [h1, Nat.mul_pow, ← Nat.pow_mul]
      by_cases hbig : 64 ≤ t * n
      · have hz : x ^ n % M64 = 0 := by
          rw [hxn, show t * n = 64 + (t * n - 64) by omega, Nat.pow_add, Nat.mul_assoc]
          exact Nat.mul_mod_right _ _
        rw [hz, tzN_zero]
        by_cases h64 : 64 ≤ n
        · rw [if_pos h64]
        · rw [if_neg h64]
          by_cases hp : 64 < t * n
          · rw [if_pos hp]
          · rw [if_neg hp]
            omega
      · have htn : t ≤ t * n := Nat.le_mul_of_pos_right t (by omega)
        have hnt : n ≤ t * n := Nat.le_mul_of_pos_left n (by omega)
        have hu := h2 (by omega)
        rw [if_neg (by omega), if_neg (by omega), hxn]
        have e1 : M64 = 2 ^ (t * n) * 2 ^ (64 - t * n) := by
          rw [← Nat.pow_add]
          unfold M64
          congr 1
          omega
        rw [e1, Nat.mul_mod_mul_left]
        refine tzN_mul (t * n) 64 _ (by omega) ?_
        have e2 : 2 ^ (64 - t * n) = 2 * 2 ^ (64 - t * n - 1) := by
          rw [← Nat.pow_succ']
          congr 1
          omega
        rw [e2, Nat.mod_mul_right_mod]
        exact odd_pow u n hu

end Go.Proofs.Qxb6617906a
