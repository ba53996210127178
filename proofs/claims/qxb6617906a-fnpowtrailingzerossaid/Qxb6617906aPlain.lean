import Derived.WalkKit
namespace Go.Proofs.Qxb6617906a

/-- 2 to the 64th. -/
def M64 : Nat := 2 ^ 64

/-- The power, modulo 2 to the 64th. -/
def powM (x n : Nat) : Nat := x ^ n % M64

theorem powM_lt (x n : Nat) : powM x n < M64 := Nat.mod_lt _ (by unfold M64; omega)
theorem powM_zero (x : Nat) : powM x 0 = 1 := by unfold powM M64; simp
theorem powM_succ (x n : Nat) : powM x (n + 1) = powM x n * x % M64 := by
  unfold powM
  rw [Nat.pow_succ, Nat.mod_mul_mod]

/-- What the loop keeps. -/
def keeps (x n p' x' n' : Nat) : Prop := p' * x' ^ n' % M64 = powM x n

theorem keeps_start (x n : Nat) : keeps x n 1 x n := by unfold keeps powM; rw [Nat.one_mul]
theorem keeps_end {x n p' x' : Nat} (hp : p' < M64) (h : keeps x n p' x' 0) : p' = powM x n := by
  unfold keeps at h
  rw [Nat.pow_zero, Nat.mul_one, Nat.mod_eq_of_lt hp] at h
  exact h
theorem sq_pow (x m : Nat) : (x * x) ^ m = x ^ (2 * m) := by rw [Nat.pow_mul]; congr 1; exact (Nat.pow_two x).symm
theorem keeps_even {x n p' x' n' : Nat} (he : n' % 2 = 0) (h : keeps x n p' x' n') : keeps x n p' (x' * x' % M64) (n' / 2) := by
  unfold keeps at *
  rw [← h, Nat.mul_mod, Nat.pow_mod, Nat.mod_mod, ← Nat.pow_mod, ← Nat.mul_mod, sq_pow, show 2 * (n' / 2) = n' by omega]
theorem keeps_odd {x n p' x' n' : Nat} (he : n' % 2 = 1) (h : keeps x n p' x' n') : keeps x n (p' * x' % M64) (x' * x' % M64) (n' / 2) := by
  unfold keeps at *
  rw [← h, Nat.mul_mod, Nat.pow_mod, Nat.mod_mod, Nat.mod_mod, ← Nat.pow_mod, ← Nat.mul_mod, sq_pow, Nat.mul_assoc]
  have e : x' * x' ^ (2 * (n' / 2)) = x' ^ n' := by
    rw [← Nat.pow_succ']
    congr 1
    omega
  rw [e]

end Go.Proofs.Qxb6617906a
