import Derived.Test.Qxb6616853aFmtTime
import Derived.Deep.CutRange
namespace Go.Proofs.Qxb6616853aFmt
open Go.RowKit
attribute [local go_sem ↓] Go.wp_at_zero Go.wp_at_succ

/-- A number held at the ends of int64. -/
def clamp (D : Int) : Int := if D < -9223372036854775808 then -9223372036854775808 else if 9223372036854775807 < D then 9223372036854775807 else D

def SubPost (D : Int) (w : World) (e : Ending) (w' : World) : Prop := ∃ d, e = .returned (.int .i64 d) ∧ d = clamp D ∧ Below w.heap.size w w'

/-- What the wrapped difference is good for. -/
theorem wrapped (n s n' s' : Int) (h0 : 0 ≤ n) (h1 : n < 1000000000) (h2 : 0 ≤ n') (h3 : n' < 1000000000) :
    ∃ d, wrap64 (wrap64 ((s - s') * 1000000000) + (n - n')) = d ∧ -9223372036854775808 ≤ d ∧ d ≤ 9223372036854775807 ∧
      ((n' + 1000000000 * s' + d = n + 1000000000 * s ∧ d = clamp (n + 1000000000 * s - (n' + 1000000000 * s'))) ∨
       (n' + 1000000000 * s' + d ≠ n + 1000000000 * s ∧ clamp (n + 1000000000 * s - (n' + 1000000000 * s')) = if s < s' ∨ s = s' ∧ n < n' then -9223372036854775808 else 9223372036854775807)) := by
  refine ⟨_, rfl, ?_⟩
  unfold clamp wrap64
  split <;> (try split) <;> omega

/-- Behind 'u.Add(d).Equal(t)'. -/
def EqCut (n s N : Int) (W : World) (v : Value) (wx : World) : Prop :=
  ∃ n1 s1, v = .bool ((s1 == s) && (n1 == n)) ∧ 0 ≤ n1 ∧ n1 < 1000000000 ∧ n1 + 1000000000 * s1 = N ∧ Below W.heap.size W wx

set_option maxHeartbeats 2000000 in
theorem sub_any (n s n' s' : Int) (w : World) (h0 : 0 ≤ n) (h1 : n < 1000000000) (h2 : 0 ≤ n') (h3 : n' < 1000000000) (hs0 : -10000000000 ≤ s) (hs1 : s ≤ 10000000000) (hs2 : -10000000000 ≤ s') (hs3 : s' ≤ 10000000000) :
    Calls Tryf.prog 35 #[tm n s, tm n' s'] w (SubPost (n + 1000000000 * s - (n' + 1000000000 * s')) w) := by
  have hb := bit_mono2 n n' h0 (by omega) h2 (by omega)
  unfold tm
  go_enter Tryf.func35, Tryf.ntmps35
  go_wp2_with fail
  refine (sec_any n s w.heap.size _ h0 h1 (by simp) (by simp)).mono ?_
  rintro e w' ⟨rfl, rfl⟩
  go_wp2_with fail
  refine (sec_any n' s' (w.heap.size + 1) _ h2 h3 (by simp) (by simp)).mono ?_
  rintro e w' ⟨rfl, rfl⟩
  go_wp2_with fail
  refine (nsec_any n w.heap.size _ h0 h1 (by simp)).mono ?_
  rintro e w' ⟨rfl, rfl⟩
  go_wp2_with fail
  refine (nsec_any n' (w.heap.size + 1) _ h2 h3 (by simp)).mono ?_
  rintro e w' ⟨rfl, rfl⟩
  go_upto_region 5 with fail
  obtain ⟨d, hd, hd0, hd1, hcase⟩ := wrapped n s n' s' h0 h1 h2 h3
  rw [hd]
  clear hd
  have HC : Hid _ := hcase
  clear hcase hb
  go_cut [27] from 28 (fun v wx => EqCut n s (n' + 1000000000 * s' + d) ((w.alloc (.cells #[.int .u64 n, .int .i64 s, .pointer none] 93)).alloc (.cells #[.int .u64 n', .int .i64 s', .pointer none] 93)) v wx)
  case first =>
    go_region_with (first | (go_at_call 33; refine (add_any n' s' d _ h2 h3 (by omega) (by omega) hd0 hd1).mono ?_; rintro e w1 ⟨n1, s1, rfl, hn0, hn1, hN, hb1⟩; have k0 : w1.cell? ⟨w.heap.size, 0, none⟩ = some (.int .u64 n) := (hb1.cell (p := ⟨w.heap.size, 0, none⟩) (by simp <;> omega)).trans (by simp); have k1 : w1.cell? ⟨w.heap.size, 1, none⟩ = some (.int .i64 s) := (hb1.cell (p := ⟨w.heap.size, 1, none⟩) (by simp <;> omega)).trans (by simp); have k2 : w1.cell? ⟨w.heap.size, 2, none⟩ = some (.pointer none) := (hb1.cell (p := ⟨w.heap.size, 2, none⟩) (by simp <;> omega)).trans (by simp)) | (go_at_call 49; refine (equal_any n1 s1 n s _ hn0 hn1 h0 h1).mono ?_; rintro e w2 ⟨rfl, hb2⟩))
    all_goals (try go_wp2_with fail)
    all_goals go_meet
    all_goals exact ⟨n1, s1, rfl, hn0, hn1, hN, ((Below.refl _ _).drew.trans hb1).trans (hb2.mono hb1.size)⟩
  case rest =>
    obtain ⟨n1, s1, rfl, hn0, hn1, hN, hbx⟩ := hcut
    have hsz := hbx.size
    simp at hsz
    have hbw : Below w.heap.size w wc := (((Below.refl _ _).alloc (Nat.le_refl _) _).alloc (by simp) _).trans (hbx.mono (by simp; omega))
    rcases HC.out with ⟨hE, hv⟩ | ⟨hE, hv⟩
    · clear HC
      obtain rfl : n1 = n := by omega
      obtain rfl : s1 = s := by omega
      rw [show ((s1 == s1) && (n1 == n1)) = true by simp]
      have HV : Hid _ := hv
      clear hv hE hN
      go_wp2
      go_ret
      exact ⟨d, rfl, HV.out, hbw⟩
    · clear HC
      have hf : ((s1 == s) && (n1 == n)) = false := by
        rw [Bool.eq_false_iff]
        intro h
        simp at h
        omega
      rw [hf]
      have HV : Hid _ := hv
      have k0 : wc.cell? ⟨w.heap.size, 0, none⟩ = some (.int .u64 n) := (hbx.cell (p := ⟨w.heap.size, 0, none⟩) (by simp <;> omega)).trans (by simp)
      have k1 : wc.cell? ⟨w.heap.size, 1, none⟩ = some (.int .i64 s) := (hbx.cell (p := ⟨w.heap.size, 1, none⟩) (by simp <;> omega)).trans (by simp)
      have k2 : wc.cell? ⟨w.heap.size, 2, none⟩ = some (.pointer none) := (hbx.cell (p := ⟨w.heap.size, 2, none⟩) (by simp <;> omega)).trans (by simp)
      have l0 : wc.cell? ⟨w.heap.size + 1, 0, none⟩ = some (.int .u64 n') := (hbx.cell (p := ⟨w.heap.size + 1, 0, none⟩) (by simp <;> omega)).trans (by simp)
      have l1 : wc.cell? ⟨w.heap.size + 1, 1, none⟩ = some (.int .i64 s') := (hbx.cell (p := ⟨w.heap.size + 1, 1, none⟩) (by simp <;> omega)).trans (by simp)
      have l2 : wc.cell? ⟨w.heap.size + 1, 2, none⟩ = some (.pointer none) := (hbx.cell (p := ⟨w.heap.size + 1, 2, none⟩) (by simp <;> omega)).trans (by simp)
      clear hv hE hN hf
      go_wp2_with fail
      refine (before_any n s n' s' _ h0 h1 h2 h3).mono ?_
      rintro e w2 ⟨rfl, hb2⟩
      by_cases hlt : s < s' ∨ s = s' ∧ n < n'
      · rw [decide_eq_true hlt]
        have hw := HV.out
        rw [if_pos hlt] at hw
        have HW : Hid _ := hw
        clear HV hw hlt
        go_wp2
        go_ret
        exact ⟨_, rfl, HW.out.symm, hbw.trans (hb2.mono hbw.size)⟩
      · rw [decide_eq_false hlt]
        have hw := HV.out
        rw [if_neg hlt] at hw
        have HW : Hid _ := hw
        clear HV hw hlt
        go_wp2
        go_ret
        exact ⟨_, rfl, HW.out.symm, hbw.trans (hb2.mono hbw.size)⟩
end Go.Proofs.Qxb6616853aFmt
