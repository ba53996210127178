import Derived.Test.Qxb6617906aProg
import Derived.Test.Qxb6617906aPlain
import Derived.WalkSpells
import Derived.Below
namespace Go.Proofs.Qxb6617906a
open Go.RowKit

theorem wrapU (a : Nat) : IntKind.u64.wrap (a : Int) = ((a % M64 : Nat) : Int) := by
  unfold M64
  simp [IntKind.wrap, IntKind.bits, IntKind.signed]

theorem valMul (a b : Nat) : Value.int .u64 (IntKind.u64.wrap ((a : Int) * (b : Int))) = .int .u64 ((a * b % M64 : Nat) : Int) := by
  rw [← wrapU, Int.natCast_mul]

theorem bitOne (n : Nat) (h : n < M64) : bits .and .u64 (n : Int) 1 = ((n % 2 : Nat) : Int) := by
  unfold M64 at h
  have := u64_and_nat n 1 (by omega) (by omega)
  rw [nat_mask1] at this
  exact this

set_option maxHeartbeats 1000000 in
theorem pow_any (x n : Nat) (w : World) (hx : x < M64) (hn : n < M64) :
    Calls Try.prog 8 #[.int .u64 x, .int .u64 n] w fun e w' => e = .returned (.int .u64 (powM x n : Nat)) ∧ w' = w := by
  go_enter Try.func8, Try.ntmps8
  go_wp2
  go_loop [0, 1, 5] (fun a b c => ∃ x' n' p' : Nat, a = .int .u64 x' ∧ b = .int .u64 n' ∧ c = .int .u64 p' ∧ x' < M64 ∧ n' < M64 ∧ p' < M64 ∧ keeps x n p' x' n') (fun _ b _ => (intOf b).toNat)
  case atStart => exact ⟨x, n, 1, rfl, rfl, rfl, hx, hn, by unfold M64; omega, keeps_start x n⟩
  case round =>
    obtain ⟨x', n', p', rfl, rfl, rfl, hx', hn', hp', hk⟩ := hrel
    have HB : Hid _ := bitOne n' hn'
    have hm : ∀ a : Nat, a % M64 < M64 := fun a => Nat.mod_lt _ (by unfold M64; omega)
    by_cases h0 : 0 < n'
    · by_cases ho : n' % 2 = 1
      · have hb : (bits .and .u64 (n' : Int) 1 != 0) = true := by rw [HB.out, ho]; rfl
        have HO : Hid (n' % 2 = 1) := ho
        clear ho
        go_wp2
        go_round
        case rel => exact ⟨_, n' / 2, _, valMul _ _, by go_num, valMul _ _, hm _, by omega, hm _, keeps_odd HO.out hk⟩
        case measure => simp [intOf]; omega
      · have ho' : n' % 2 = 0 := by omega
        have hb : (bits .and .u64 (n' : Int) 1 != 0) = false := by rw [HB.out, ho']; rfl
        have HO : Hid (n' % 2 = 0) := ho'
        clear ho ho'
        go_wp2
        go_round
        case rel => exact ⟨_, n' / 2, p', valMul _ _, by go_num, rfl, hm _, by omega, hp', keeps_even HO.out hk⟩
        case measure => simp [intOf]; omega
    · obtain rfl : n' = 0 := by omega
      have HE : Hid _ := keeps_end hp' hk
      go_wp2
      go_ret
      exact ⟨by rw [← HE.out]; rfl, rfl⟩

theorem zzpow_any (x n : Nat) (w : World) (hx : x < M64) (hn : n < M64) :
    Calls Try.prog 5 #[.int .u64 x, .int .u64 n] w fun e w' => e = .returned (.int .u64 (powM x n : Nat)) ∧ w' = w := by
  go_enter Try.func5, Try.ntmps5
  go_wp2_with fail
  refine (pow_any x n w hx hn).mono ?_
  rintro e w' ⟨rfl, rfl⟩
  go_wp2
  go_ret
  exact ⟨rfl, rfl⟩
end Go.Proofs.Qxb6617906a
