import Derived.Test.Qxb6616853aFmtSet
import Derived.Deep.RegionWith
import Derived.Deep.DrawnRows
namespace Go.Proofs.Qxb6616853aFmt
open Go.RowKit
attribute [local go_sem ↓] Go.wp_at_zero Go.wp_at_succ

theorem bit_nsec (n : Int) (h0 : 0 ≤ n) (h1 : n < 1073741824) : bits .and .u64 n 1073741823 = n := by
  rw [u64_and n _ h0 (by omega) (by omega) (by omega)]
  have e : (1073741823 : Int).toNat = 2 ^ 30 - 1 := by decide
  rw [e, Nat.and_two_pow_sub_one_eq_mod n.toNat 30]
  omega
theorem bit_mono (n : Int) (h0 : 0 ≤ n) (h1 : n < 1073741824) : bits .and .u64 n 9223372036854775808 = 0 := by
  rw [u64_and n _ h0 (by omega) (by omega) (by omega)]
  have := nat_bit 63 n.toNat
  have e : (9223372036854775808 : Int).toNat = 2 ^ 63 := by decide
  rw [e, this]
  have : n.toNat / 2 ^ 63 = 0 := Nat.div_eq_of_lt (by omega)
  rw [this]
  simp
theorem bit_mono2 (n m : Int) (h0 : 0 ≤ n) (h1 : n < 1073741824) (h2 : 0 ≤ m) (h3 : m < 1073741824) : bits .and .u64 (bits .and .u64 n m) 9223372036854775808 = 0 := by
  rw [u64_and n m h0 (by omega) h2 (by omega)]
  have := Nat.and_le_left (n := n.toNat) (m := m.toNat)
  exact bit_mono _ (by omega) (by omega)
theorem bit_clear (n : Int) (h0 : 0 ≤ n) (h1 : n < 1073741824) : bits .andNot .u64 n 1073741823 = 0 := by
  rw [u64_andNot n _ h0 (by omega) (by omega) (by omega)]
  have e : 18446744073709551615 - (1073741823 : Int).toNat = 2 ^ 30 * 17179869183 := by decide
  have z : n.toNat &&& 2 ^ 30 * 17179869183 = 0 := by
    apply Nat.eq_of_testBit_eq
    intro i
    rw [Nat.testBit_and, Nat.testBit_two_pow_mul, Nat.zero_testBit]
    by_cases hi : 30 ≤ i
    · have : n.toNat.testBit i = false := Nat.testBit_lt_two_pow (Nat.lt_of_lt_of_le (by omega) (Nat.pow_le_pow_right (by omega) hi))
      rw [this]
      rfl
    · simp [hi]
  rw [e, z]
  rfl
theorem bit_or (m : Int) (h0 : 0 ≤ m) (h1 : m < 1073741824) : bits .or .u64 0 m = m := by
  rw [u64_or 0 m (by omega) (by omega) h0 (by omega)]
  simp
  omega

/-- A moment without a monotonic clock: nanoseconds and seconds. -/
def tm (n s : Int) : Value := .agg #[.int .u64 n, .int .i64 s, .pointer none]

theorem nsec_any (n : Int) (b : Nat) (w : World) (h0 : 0 ≤ n) (h1 : n < 1000000000) (hc : w.cell? ⟨b, 0, none⟩ = some (.int .u64 n)) :
    Calls Tryf.prog 37 #[.pointer (some ⟨b, 0, none⟩)] w fun e w' => e = .returned (.int .i32 n) ∧ w' = w := by
  have hb := bit_nsec n h0 (by omega)
  go_enter Tryf.func37, Tryf.ntmps37
  go_wp2
  go_ret
  exact ⟨rfl, rfl⟩

theorem sec_any (n s : Int) (b : Nat) (w : World) (h0 : 0 ≤ n) (h1 : n < 1000000000) (hc : w.cell? ⟨b, 0, none⟩ = some (.int .u64 n)) (hd : w.cell? ⟨b, 1, none⟩ = some (.int .i64 s)) :
    Calls Tryf.prog 48 #[.pointer (some ⟨b, 0, none⟩)] w fun e w' => e = .returned (.int .i64 s) ∧ w' = w := by
  have hb := bit_mono n h0 (by omega)
  go_enter Tryf.func48, Tryf.ntmps48
  go_wp2
  go_ret
  exact ⟨rfl, rfl⟩
/-- (*Time).addSec where the sum does not pass int64. -/
theorem addSec_any (n s d : Int) (b : Nat) (w : World) (h0 : 0 ≤ n) (h1 : n < 1000000000) (hs0 : -20000000000 ≤ s) (hs1 : s ≤ 20000000000) (hd0 : -20000000000 ≤ d) (hd1 : d ≤ 20000000000)
    (hc : w.cell? ⟨b, 0, none⟩ = some (.int .u64 n)) (hd : w.cell? ⟨b, 1, none⟩ = some (.int .i64 s)) (hf : w.frozen? ⟨b, 1, none⟩ = false) :
    Calls Tryf.prog 38 #[.pointer (some ⟨b, 0, none⟩), .int .i64 d] w fun e w' => e = .returned (.tuple #[]) ∧ w' = w.setCell ⟨b, 1, none⟩ (.int .i64 (s + d)) := by
  have hb := bit_mono n h0 (by omega)
  by_cases hp : 0 < d
  · go_enter Tryf.func38, Tryf.ntmps38
    go_wp2
    go_end0
    exact ⟨rfl, rfl⟩
  · have hq : decide (s < s + d) = false := by simp; omega
    go_enter Tryf.func38, Tryf.ntmps38
    go_wp2
    go_end0
    exact ⟨rfl, rfl⟩

theorem ret_bool {a b : Bool} (h : a = b) : Ending.returned (.bool a) = .returned (.bool b) := by rw [h]

theorem equal_any (n s n' s' : Int) (w : World) (h0 : 0 ≤ n) (h1 : n < 1000000000) (h2 : 0 ≤ n') (h3 : n' < 1000000000) :
    Calls Tryf.prog 49 #[tm n s, tm n' s'] w fun e w' => e = .returned (.bool ((s == s') && (n == n'))) ∧ Below w.heap.size w w' := by
  have hb := bit_mono2 n n' h0 (by omega) h2 (by omega)
  have hn := bit_nsec n h0 (by omega)
  have hn' := bit_nsec n' h2 (by omega)
  have hm := bit_mono n h0 (by omega)
  have hm' := bit_mono n' h2 (by omega)
  unfold tm
  by_cases hss : (s == s') = true
  · go_enter Tryf.func49, Tryf.ntmps49
    go_wp2
    go_ret
    exact ⟨ret_bool (by rw [hss]; rfl), ((Below.refl _ _).alloc (Nat.le_refl _) _).alloc (by simp) _⟩
  · have hss' : (s == s') = false := by simpa using hss
    go_enter Tryf.func49, Tryf.ntmps49
    go_wp2
    go_ret
    exact ⟨ret_bool (by rw [hss']; rfl), ((Below.refl _ _).alloc (Nat.le_refl _) _).alloc (by simp) _⟩

theorem before_any (n s n' s' : Int) (w : World) (h0 : 0 ≤ n) (h1 : n < 1000000000) (h2 : 0 ≤ n') (h3 : n' < 1000000000) :
    Calls Tryf.prog 50 #[tm n s, tm n' s'] w fun e w' => e = .returned (.bool (decide (s < s' ∨ (s = s' ∧ n < n')))) ∧ Below w.heap.size w w' := by
  have hb := bit_mono2 n n' h0 (by omega) h2 (by omega)
  have hn := bit_nsec n h0 (by omega)
  have hn' := bit_nsec n' h2 (by omega)
  have hm := bit_mono n h0 (by omega)
  have hm' := bit_mono n' h2 (by omega)
  unfold tm
  rcases Int.lt_trichotomy s s' with hlt | heq | hgt
  · go_enter Tryf.func50, Tryf.ntmps50
    go_wp2
    go_ret
    exact ⟨ret_bool (by simp [hlt]), ((Below.refl _ _).alloc (Nat.le_refl _) _).alloc (by simp) _⟩
  · subst heq
    go_enter Tryf.func50, Tryf.ntmps50
    go_wp2
    go_ret
    exact ⟨ret_bool (by simp), ((Below.refl _ _).alloc (Nat.le_refl _) _).alloc (by simp) _⟩
  · have h4 : ¬ s < s' := by omega
    have h5 : (s == s') = false := by simp; omega
    go_enter Tryf.func50, Tryf.ntmps50
    go_wp2
    go_ret
    exact ⟨ret_bool (by simp; omega), ((Below.refl _ _).alloc (Nat.le_refl _) _).alloc (by simp) _⟩

/-- (Time).Add where the seconds stay small. -/
def AddPost (n s d : Int) (w : World) (e : Ending) (w' : World) : Prop :=
  ∃ n' s', e = .returned (tm n' s') ∧ 0 ≤ n' ∧ n' < 1000000000 ∧ n' + 1000000000 * s' = n + 1000000000 * s + d ∧ Below w.heap.size w w'

set_option maxHeartbeats 1000000 in
theorem add_any (n s d : Int) (w : World) (h0 : 0 ≤ n) (h1 : n < 1000000000) (hs0 : -10000000000 ≤ s) (hs1 : s ≤ 10000000000) (hd0 : -9223372036854775808 ≤ d) (hd1 : d ≤ 9223372036854775807) :
    Calls Tryf.prog 33 #[tm n s, .int .i64 d] w (AddPost n s d w) := by
  have hn := bit_nsec n h0 (by omega)
  have hcl := bit_clear n h0 (by omega)
  have hr := Int.tmod_add_mul_tdiv d 1000000000
  have hrl : d.tmod 1000000000 < 1000000000 := Int.tmod_lt_of_pos d (by omega)
  have hrg : -1000000000 < d.tmod 1000000000 := by
    have := Int.lt_tmod_of_pos d (b := 1000000000) (by omega)
    omega
  unfold tm
  go_enter Tryf.func33, Tryf.ntmps33
  go_wp2_with fail
  refine (nsec_any n w.heap.size _ h0 h1 (by simp)).mono ?_
  rintro e w' ⟨rfl, rfl⟩
  go_wp2_with fail
  · have hm0 : 0 ≤ n + d.tmod 1000000000 - 1000000000 := by omega
    have hm1 : n + d.tmod 1000000000 - 1000000000 < 1000000000 := by omega
    rw [bit_or _ hm0 (by omega)]
    have hmm := bit_mono (n + d.tmod 1000000000 - 1000000000) hm0 (by omega)
    refine (addSec_any (n + d.tmod 1000000000 - 1000000000) s (d.tdiv 1000000000 + 1) w.heap.size _ hm0 hm1 (by omega) (by omega) (by omega) (by omega) (by simp) (by simp) (by simp)).mono ?_
    rintro e w' ⟨rfl, rfl⟩
    go_wp2
    exact bodyPost_ret (v := tm (n + d.tmod 1000000000 - 1000000000) (s + (d.tdiv 1000000000 + 1))) (by simp [results, Tryf.results33, go_sem, tm]) rfl ⟨_, _, rfl, hm0, hm1, by omega, by first | exact ((Below.refl _ _).alloc (Nat.le_refl _) _).alloc (by simp) _ | go_goals⟩
  · have hm0 : 0 ≤ n + d.tmod 1000000000 + 1000000000 := by omega
    have hm1 : n + d.tmod 1000000000 + 1000000000 < 1000000000 := by omega
    rw [bit_or _ hm0 (by omega)]
    have hmm := bit_mono (n + d.tmod 1000000000 + 1000000000) hm0 (by omega)
    refine (addSec_any (n + d.tmod 1000000000 + 1000000000) s (d.tdiv 1000000000 - 1) w.heap.size _ hm0 hm1 (by omega) (by omega) (by omega) (by omega) (by simp) (by simp) (by simp)).mono ?_
    rintro e w' ⟨rfl, rfl⟩
    go_wp2
    exact bodyPost_ret (v := tm (n + d.tmod 1000000000 + 1000000000) (s + (d.tdiv 1000000000 - 1))) (by simp [results, Tryf.results33, go_sem, tm]) rfl ⟨_, _, rfl, hm0, hm1, by omega, by first | exact ((Below.refl _ _).alloc (Nat.le_refl _) _).alloc (by simp) _ | go_goals⟩
  · have hm0 : 0 ≤ n + d.tmod 1000000000 := by omega
    have hm1 : n + d.tmod 1000000000 < 1000000000 := by omega
    rw [bit_or _ hm0 (by omega)]
    have hmm := bit_mono (n + d.tmod 1000000000) hm0 (by omega)
    refine (addSec_any (n + d.tmod 1000000000) s (d.tdiv 1000000000) w.heap.size _ hm0 hm1 (by omega) (by omega) (by omega) (by omega) (by simp) (by simp) (by simp)).mono ?_
    rintro e w' ⟨rfl, rfl⟩
    go_wp2
    exact bodyPost_ret (v := tm (n + d.tmod 1000000000) (s + (d.tdiv 1000000000))) (by simp [results, Tryf.results33, go_sem, tm]) rfl ⟨_, _, rfl, hm0, hm1, by omega, by first | exact ((Below.refl _ _).alloc (Nat.le_refl _) _).alloc (by simp) _ | go_goals⟩

end Go.Proofs.Qxb6616853aFmt
