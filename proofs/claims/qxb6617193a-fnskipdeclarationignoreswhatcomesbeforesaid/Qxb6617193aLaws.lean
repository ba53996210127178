import Derived.Test.Qxb6617193aOn
namespace Go.Proofs.Qxb6617193a
open Go.RowKit

def TrueB (w : World) (e : Ending) (w' : World) : Prop := e = .returned (.bool true) ∧ Below w.heap.size w w'

set_option maxHeartbeats 2000000 in
theorem law3 (a : Option Addr) (len cap : Nat) (K : Nat → Int) (st i0 : Int) (w : World) (h : IsInts w a len cap K) :
    Calls Try.prog 3 #[.slice a len cap, .int .i64 st, .int .i64 i0] w (TrueB w) := by
  have hlc := h.1
  have hm := h.2.1
  have hzb := zzBytes3 a len cap st i0 w (Nat.le_trans hlc hm)
  unfold maxLen at hm
  go_enter Try.func3, Try.ntmps3
  go_wp2_with fail
  refine hzb.mono ?_
  rintro e w' ⟨b, rfl, hw⟩
  obtain rfl := hw
  clear hzb
  cases b
  · go_wp2
    go_ret
    exact ⟨rfl, Below.refl _ _⟩
  by_cases hl : len ≤ 131072
  case neg =>
    go_wp2
    go_ret
    exact ⟨rfl, Below.refl _ _⟩
  by_cases hs0 : 0 ≤ st
  case neg =>
    go_wp2
    go_ret
    exact ⟨rfl, Below.refl _ _⟩
  by_cases hs1 : st < len
  case neg =>
    go_wp2
    go_ret
    exact ⟨rfl, Below.refl _ _⟩
  obtain ⟨st, rfl⟩ := Int.eq_ofNat_of_zero_le hs0
  clear hs0
  have hf := firstEof a len cap K st w' h (by omega) (by omega)
  go_wp2_with fail
  refine hf.mono ?_
  rintro e w2 ⟨r, rfl, hw, hr⟩
  obtain rfl := hw
  clear hf
  rcases hr with rfl | ⟨m, rfl, hE⟩
  · go_wp2
    go_ret
    exact ⟨rfl, Below.refl _ _⟩
  have hon := skipOn_any a len cap st m i0 K w2 h (by omega) hE
  go_wp2_with fail
  refine hon.mono ?_
  rintro e w3 ⟨rfl, hb⟩
  clear hon
  have hout := outer_any a len cap K st m w3 (h.below hb (Nat.le_refl _)) (by omega) hE.2.1 hE.1
  rw [skip_out K (m - st) st 0 0 0 (by omega)]
  clear hE h
  go_wp2_with fail
  refine hout.mono ?_
  rintro e w4 ⟨rfl, hw⟩
  obtain rfl := hw
  clear hout
  go_wp2
  go_ret
  exact ⟨rfl, hb⟩
end Go.Proofs.Qxb6617193a
