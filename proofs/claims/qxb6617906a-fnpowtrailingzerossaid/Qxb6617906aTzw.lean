import Derived.Test.Qxb6617906aRec
import Derived.Test.Qxb6617906aTz
namespace Go.Proofs.Qxb6617906a
open Go.RowKit

theorem tzN_step_even {f v : Nat} (h : v % 2 = 0) : tzN (f + 1) v = tzN f (v / 2) + 1 := by rw [tzN, if_pos h]
theorem tzN_step_odd {f v : Nat} (h : v % 2 = 1) : tzN (f + 1) v = 0 := by rw [tzN, if_neg (by omega)]

set_option maxHeartbeats 1000000 in
theorem tz_any (v : Nat) (w : World) (hv : v < M64) : Calls Try.prog 6 #[.int .u64 v] w fun e w' => e = .returned (.int .u64 (tz v : Nat)) ∧ w' = w := by
  go_enter Try.func6, Try.ntmps6
  go_wp2
  go_loop [0, 3] (fun a b => ∃ v' k : Nat, a = .int .u64 v' ∧ b = .int .u64 k ∧ v' < M64 ∧ k ≤ 64 ∧ tzN (64 - k) v' + k = tz v) (fun _ b => 64 - (intOf b).toNat)
  case atStart => exact ⟨v, 0, rfl, rfl, hv, by omega, rfl⟩
  case round =>
    obtain ⟨v', k, rfl, rfl, hv', hk, he⟩ := hrel
    have HE : Hid (tzN (64 - k) v' + k = tz v) := he
    clear he
    have HB : Hid _ := bitOne v' hv'
    by_cases h0 : k < 64
    · by_cases ho : v' % 2 = 0
      · have hb : (bits .and .u64 (v' : Int) 1 == 0) = true := by rw [HB.out, ho]; rfl
        have HO : Hid _ := tzN_step_even (f := 63 - k) ho
        clear ho
        go_wp2
        go_round
        case rel => exact ⟨v' / 2, k + 1, by go_num, by go_num, by omega, by omega, by
          have h1 := HE.out
          rw [show 64 - k = 63 - k + 1 by omega, HO.out] at h1
          rw [show 64 - (k + 1) = 63 - k by omega]
          omega⟩
        case measure => simp [intOf]; omega
      · have ho' : v' % 2 = 1 := by omega
        have hb : (bits .and .u64 (v' : Int) 1 == 0) = false := by rw [HB.out, ho']; rfl
        have HO : Hid _ := tzN_step_odd (f := 63 - k) ho'
        clear ho ho'
        go_wp2
        go_ret
        refine ⟨?_, rfl⟩
        have h1 := HE.out
        rw [show 64 - k = 63 - k + 1 by omega, HO.out, Nat.zero_add] at h1
        rw [← h1]
        rfl
    · obtain rfl : k = 64 := by omega
      go_wp2
      go_ret
      refine ⟨?_, rfl⟩
      have h1 := HE.out
      rw [← h1]
      rfl

theorem exp_any (t n : Nat) (w : World) (ht : t ≤ 64) (hn : n < M64) : Calls Try.prog 7 #[.int .u64 t, .int .u64 n] w fun e w' => e = .returned (.int .u64 (expTz t n : Nat)) ∧ w' = w := by
  by_cases h0 : n = 0
  · have HE : Hid (expTz t n = 0) := by show _ = _; unfold expTz; rw [if_pos (Or.inl h0)]
    rw [HE.out]
    subst h0
    go_enter Try.func7, Try.ntmps7
    go_wp2
    go_ret
    exact ⟨rfl, rfl⟩
  by_cases h1 : t = 0
  · have HE : Hid (expTz t n = 0) := by show _ = _; unfold expTz; rw [if_pos (Or.inr h1)]
    rw [HE.out]
    subst h1
    have hn0 : ((n : Int) == 0) = false := by simp; omega
    go_enter Try.func7, Try.ntmps7
    go_wp2
    go_ret
    exact ⟨rfl, rfl⟩
  have hn0 : ((n : Int) == 0) = false := by simp; omega
  have ht0 : ((t : Int) == 0) = false := by simp; omega
  by_cases h2 : 64 ≤ n
  · have HE : Hid (expTz t n = 64) := by show _ = _; unfold expTz; rw [if_neg (by omega), if_pos h2]
    rw [HE.out]
    go_enter Try.func7, Try.ntmps7
    go_wp2
    go_ret
    exact ⟨rfl, rfl⟩
  have hle : t * n ≤ 64 * 64 := Nat.mul_le_mul ht (by omega)
  have hcast : ((t * n : Nat) : Int) = (t : Int) * (n : Int) := by rw [Int.natCast_mul]
  obtain ⟨p, hp⟩ : ∃ p, p = t * n := ⟨_, rfl⟩
  have hw : IntKind.u64.wrap ((t : Int) * (n : Int)) = (p : Int) := by
    rw [← hcast, wrapU, hp, Nat.mod_eq_of_lt (by unfold M64; omega)]
  rw [← hp] at hle
  by_cases h3 : 64 < p
  · have HE : Hid (expTz t n = 64) := by show _ = _; unfold expTz; rw [if_neg (by omega), if_neg h2, if_pos (by omega)]
    rw [HE.out]
    clear hp hcast
    go_enter Try.func7, Try.ntmps7
    go_wp2
    go_ret
    exact ⟨rfl, rfl⟩
  · have HE : Hid (expTz t n = p) := by show _ = _; unfold expTz; rw [if_neg (by omega), if_neg h2, if_neg (by omega), hp]
    rw [HE.out]
    clear hp hcast
    go_enter Try.func7, Try.ntmps7
    go_wp2
    go_ret
    exact ⟨rfl, rfl⟩

set_option maxHeartbeats 1000000 in
theorem tzLaw (x n : Nat) (w : World) (hx : x < M64) (hn : n < M64) : Calls Try.prog 4 #[.int .u64 x, .int .u64 n] w (TrueP w) := by
  have HT : Hid _ := tz_pow x n
  have hle : tz x ≤ 64 := tzN_le 64 x
  go_enter Try.func4, Try.ntmps4
  go_wp2_with fail
  refine (zzpow_any x n _ hx hn).mono ?_
  rintro e w' ⟨rfl, hw⟩
  obtain rfl := hw
  go_wp2_with fail
  refine (tz_any _ _ (powM_lt x n)).mono ?_
  rintro e w' ⟨rfl, hw⟩
  obtain rfl := hw
  rw [HT.out]
  go_wp2_with fail
  refine (tz_any x _ hx).mono ?_
  rintro e w' ⟨rfl, hw⟩
  obtain rfl := hw
  go_wp2_with fail
  refine (exp_any _ n _ hle hn).mono ?_
  rintro e w' ⟨rfl, hw⟩
  obtain rfl := hw
  go_wp2
  go_ret
  exact ⟨rfl, rfl⟩
end Go.Proofs.Qxb6617906a
