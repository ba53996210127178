import Derived.Test.Qxb6617906aPow
namespace Go.Proofs.Qxb6617906a
open Go.RowKit

def TrueP (w : World) (e : Ending) (w' : World) : Prop := e = .returned (.bool true) ∧ w' = w

theorem zzpow_int (x n : Nat) (N : Int) (hN : N = (n : Nat)) (w : World) (hx : x < M64) (hn : n < M64) :
    Calls Try.prog 5 #[.int .u64 x, .int .u64 N] w fun e w' => e = .returned (.int .u64 (powM x n : Nat)) ∧ w' = w := by
  subst hN
  exact zzpow_any x n w hx hn

set_option maxHeartbeats 1000000 in
theorem recLaw (x n : Nat) (w : World) (hx : x < M64) (hn : n < M64) : Calls Try.prog 3 #[.int .u64 x, .int .u64 n] w (TrueP w) := by
  have hz : ((powM x 0 : Nat) : Int) = 1 := by rw [powM_zero]; rfl
  have HZ : Hid (((powM x 0 : Nat) : Int) = 1) := hz
  clear hz
  have HM : Hid (n < 18446744073709551616) := hn
  go_enter Try.func3, Try.ntmps3
  go_wp2_with fail
  refine (zzpow_int x 0 _ rfl _ hx (by unfold M64; omega)).mono ?_
  rintro e w' ⟨rfl, hw⟩
  obtain rfl := hw
  rw [HZ.out]
  have hmm := HM.out
  by_cases hlast : n < 18446744073709551615
  · have HQ : Hid (((powM x (n + 1) : Nat) : Int) == IntKind.u64.wrap (((powM x n : Nat) : Int) * (x : Int))) := by
      show _ = _
      rw [← Int.natCast_mul, wrapU, powM_succ]
      simp
    have hl : (n : Int) < 18446744073709551615 := by omega
    clear hlast hmm
    go_wp2_with fail
    refine (zzpow_int x (n + 1) _ rfl _ hx (by unfold M64; omega)).mono ?_
    rintro e w' ⟨rfl, hw⟩
    obtain rfl := hw
    go_wp2_with fail
    refine (zzpow_int x n _ rfl _ hx hn).mono ?_
    rintro e w' ⟨rfl, hw⟩
    obtain rfl := hw
    have hq := HQ.out
    go_wp2
    go_ret
    exact ⟨rfl, rfl⟩
  · have hl : decide ((n : Int) < 18446744073709551615) = false := by simp; omega
    clear hlast hmm
    go_wp2
    go_ret
    exact ⟨rfl, rfl⟩
end Go.Proofs.Qxb6617906a
