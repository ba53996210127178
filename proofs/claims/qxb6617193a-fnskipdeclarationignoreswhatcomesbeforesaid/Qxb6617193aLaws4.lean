import Derived.Test.Qxb6617193aLaws
namespace Go.Proofs.Qxb6617193a
open Go.RowKit

/-- The joined list: k of its numbers are laid. -/
def JRow (w : World) (g n k : Nat) (K : Nat → Int) : Prop := ∃ R, Blk w g R 3 ∧ R.size = n ∧ ∀ j, j < k → R[j]? = some (.int .i64 (K j))

theorem JRow.step {w : World} {g n k : Nat} {K : Nat → Int} (h : JRow w g n k K) (hk : k < n) : JRow (w.setCell ⟨g, k, none⟩ (.int .i64 (K k))) g n (k + 1) K := by
  obtain ⟨R, h1, h2, h3⟩ := h
  refine ⟨_, h1.set k _, by simpa using h2, fun j hj => ?_⟩
  by_cases hjk : j = k
  · subst hjk
    rw [Array.getElem?_setIfInBounds_self_of_lt (by omega)]
  · rw [Array.getElem?_setIfInBounds_ne (by omega)]
    exact h3 j (by omega)

def joinK (lp : Nat) (Kp Kk : Nat → Int) : Nat → Int := fun j => if j < lp then Kp j else Kk (j - lp)
theorem joinK_old {lp : Nat} {Kp Kk : Nat → Int} {j : Nat} (h : j < lp) : joinK lp Kp Kk j = Kp j := by unfold joinK; rw [if_pos h]
theorem joinK_new {lp : Nat} {Kp Kk : Nat → Int} (j : Nat) : joinK lp Kp Kk (lp + j) = Kk j := by unfold joinK; rw [if_neg (by omega), show lp + j - lp = j by omega]

theorem skipOn_int (a : Option Addr) (len cap start m : Nat) (S : Int) (hS : S = (start : Nat)) (K : Nat → Int) (w : World) (h : IsInts w a len cap K) (hl : len ≤ 200000) (hE : EofAt K len start m) :
    Calls Try.prog 7 #[.slice a len cap, .int .i64 S, .int .i64 0] w (OnPost (skipG K (m - start) start 0) w) := by
  subst hS
  exact skipOn_any a len cap start m 0 K w h hl hE

set_option maxRecDepth 20000 in
set_option maxHeartbeats 4000000 in
theorem law4 (a : Option Addr) (lp cap : Nat) (Kp : Nat → Int) (a' : Option Addr) (lk cap' : Nat) (Kk : Nat → Int) (st : Int) (w : World) (hp : IsInts w a lp cap Kp) (h : IsInts w a' lk cap' Kk) :
    Calls Try.prog 4 #[.slice a lp cap, .slice a' lk cap', .int .i64 st] w (TrueB w) := by
  have hzb := zzBytes4 a lp cap a' lk cap' st w (Nat.le_trans hp.1 hp.2.1) (Nat.le_trans h.1 h.2.1)
  have hm := Nat.le_trans hp.1 hp.2.1
  have hm' := Nat.le_trans h.1 h.2.1
  unfold maxLen at hm hm'
  go_enter Try.func4, Try.ntmps4
  go_wp2_with fail
  refine hzb.mono ?_
  rintro e w' ⟨b, rfl, hw⟩
  obtain rfl := hw
  clear hzb
  cases b
  · go_wp2
    go_ret
    exact ⟨rfl, Below.refl _ _⟩
  by_cases hl : lp ≤ 65536
  case neg =>
    go_wp2
    go_ret
    exact ⟨rfl, Below.refl _ _⟩
  by_cases hl' : lk ≤ 65536
  case neg =>
    go_wp2
    go_ret
    exact ⟨rfl, Below.refl _ _⟩
  by_cases hs0 : 0 ≤ st
  case neg =>
    go_wp2
    go_ret
    exact ⟨rfl, Below.refl _ _⟩
  by_cases hs1 : st < lk
  case neg =>
    go_wp2
    go_ret
    exact ⟨rfl, Below.refl _ _⟩
  obtain ⟨s, rfl⟩ := Int.eq_ofNat_of_zero_le hs0
  clear hs0
  have hf := firstEof a' lk cap' Kk s w' h (by omega) (by omega)
  go_wp2_with fail
  refine hf.mono ?_
  rintro e w2 ⟨r, rfl, hw, hr⟩
  obtain rfl := hw
  clear hf
  rcases hr with rfl | ⟨m, rfl, hE⟩
  · go_wp2
    go_ret
    exact ⟨rfl, Below.refl _ _⟩
  obtain ⟨ii, hi, hz0, hz1, hz2⟩ := info_parts info3
  have hmk : ∀ w, (Instr.makeSlice 22 (.int .i64 ((lp : Int) + (lk : Int))) (.int .i64 ((lp : Int) + (lk : Int)))).run Try.prog w = .ok (.slice (some ⟨w.heap.size, 0, none⟩) (lp + lk) (lp + lk)) (w.alloc (.cells (madeCells #[.int .i64 0] (lp + lk)) 3)) := by
    intro w
    have := run_make w 22 3 ii _ Try.underlying22 hi hz0 .i64 .i64 ((lp : Int) + (lk : Int)) ((lp : Int) + (lk : Int)) (by omega) (by omega) (by rw [hz2]; omega) (by omega)
    rw [hz1, show ((lp : Int) + (lk : Int)).toNat = lp + lk by omega] at this
    simpa [Value.cells] using this
  clear hi hz0 hz1 hz2
  have HP : Hid _ := hp
  have HH : Hid _ := h
  have HE : Hid _ := hE
  clear hp h hE
  go_wp2
  go_loopw [9] (fun i wr => ∃ k : Nat, k ≤ lp ∧ i = .int .i64 k ∧ JRow wr w2.heap.size (lp + lk) k (joinK lp Kp Kk) ∧ Below w2.heap.size w2 wr) (fun i _ => lp - (intOf i).toNat)
  case atStart => exact ⟨0, Nat.zero_le _, rfl, ⟨_, Blk.new _ _ _, size_madeCells _ _, fun i hi => absurd hi (Nat.not_lt_zero _)⟩, (Below.refl _ _).alloc (Nat.le_refl _) _⟩
  case round =>
  obtain ⟨k, hk, rfl, hrow, hbel⟩ := hrel
  clear hmk
  by_cases hlt : k < lp
  · obtain ⟨b, off, rfl, hb, hc⟩ := HP.out.2.2 k hlt
    have d0 : wr.cell? ⟨b, off + k, none⟩ = some (.int .i64 (Kp k)) := (hbel.cell (p := ⟨b, off + k, none⟩) hb).trans hc
    have hst := hrow.step (by omega)
    rw [joinK_old hlt] at hst
    have HNX : Hid _ := hst
    obtain ⟨R, hblk, hRs, hRd⟩ := hrow
    have e0 : wr.cell? ⟨w2.heap.size, k, none⟩ = some R[k] := by rw [hblk.cell]; simp
    have f0 := hblk.frozen k
    generalize R[k] = v0 at e0
    clear hst hblk hRs hRd R hc
    go_wp2
    go_roundw
    case rel => exact ⟨k + 1, by omega, by go_num, HNX.out, hbel.setCell (Nat.le_refl _) _⟩
    case measure => simp [intOf]; omega
  obtain rfl : k = lp := by omega
  clear hlt hk
  have HROW : Hid _ := hrow
  have HBEL : Hid _ := hbel
  clear hrow hbel
  go_wp2
  go_loopw [10] (fun i wx => ∃ j : Nat, j ≤ lk ∧ i = .int .i64 j ∧ JRow wx w2.heap.size (k + lk) (k + j) (joinK k Kp Kk) ∧ Below w2.heap.size w2 wx) (fun i _ => lk - (intOf i).toNat)
  case atStart => exact ⟨0, Nat.zero_le _, rfl, HROW.out, HBEL.out⟩
  case round =>
  clear HROW HBEL
  obtain ⟨j, hj, rfl, hrow, hbel⟩ := hrel
  by_cases hlt : j < lk
  · obtain ⟨b, off, rfl, hb, hc⟩ := HH.out.2.2 j hlt
    have d0 := (hbel.cell (p := ⟨b, off + j, none⟩) hb).trans hc
    have hst := hrow.step (by omega)
    rw [joinK_new j] at hst
    have HNX : Hid _ := hst
    obtain ⟨R, hblk, hRs, hRd⟩ := hrow
    have e0 := hblk.cell (k + j)
    rw [show R[k + j]? = some R[k + j] by simp] at e0
    have f0 := hblk.frozen (k + j)
    generalize R[k + j] = v0 at e0
    clear hst hblk hRs hRd R hc
    go_wp2
    go_roundw
    case rel => exact ⟨j + 1, by omega, by go_num, HNX.out, hbel.setCell (Nat.le_refl _) _⟩
    case measure => simp [intOf]; omega
  obtain rfl : j = lk := by omega
  clear hlt hj
  have hE := HE.out
  have hin : IsInts wr a' j cap' Kk := IsInts.below HH.out hbel (Nat.le_refl _)
  have hjoin : IsInts wr (some ⟨w2.heap.size, 0, none⟩) (k + j) (k + j) (joinK k Kp Kk) := by
    obtain ⟨R, hblk, hRs, hRd⟩ := hrow
    refine ⟨Nat.le_refl _, by unfold maxLen; omega, fun i hi => ⟨w2.heap.size, 0, rfl, hblk.lt, ?_⟩⟩
    rw [hblk.cell, Nat.zero_add, hRd i hi]
  have hE2 : EofAt (joinK k Kp Kk) (k + j) (k + s) (k + m) := by
    obtain ⟨x1, x2, x3, x4⟩ := hE
    refine ⟨by omega, by omega, by rw [joinK_new]; exact x3, fun i h1 h2 => ?_⟩
    rw [show i = k + (i - k) by omega, joinK_new]
    exact x4 (i - k) (by omega) (by omega)
  have hon1 := skipOn_int a' j cap' s m _ rfl Kk wr hin (by omega) hE
  have hla := skip_lands Kk (m - s) s 0
  have hsh := skip_shift Kk (joinK k Kp Kk) k (fun i => joinK_new i) (m - s) s 0
  clear hrow
  go_wp2_with fail
  refine hon1.mono ?_
  rintro e w4 ⟨rfl, hb4⟩
  clear hon1
  have hjoin4 := hjoin.below hb4 (Nat.le_refl _)
  have hin4 := hin.below hb4 (Nat.le_refl _)
  have hon2 := skipOn_int (some ⟨w2.heap.size, 0, none⟩) (k + j) (k + j) (k + s) (k + m) ((k : Int) + (s : Int)) (by omega) (joinK k Kp Kk) w4 hjoin4 (by omega) hE2
  rw [show k + m - (k + s) = m - s by omega, hsh] at hon2
  have hbel4 := hbel.trans (hb4.mono hbel.size)
  obtain ⟨x1, x2, x3, x4⟩ := hE
  clear hjoin hin hb4 hbel hsh hjoin4 hE2
  obtain ⟨r, hr⟩ : ∃ r, r = skipG Kk (m - s) s 0 := ⟨_, rfl⟩
  have HR : Hid (r = skipG Kk (m - s) s 0) := hr
  rw [← hr] at hon2 hla ⊢
  clear hr
  go_wp2_with fail
  refine hon2.mono ?_
  rintro e w5 ⟨rfl, hb5⟩
  clear hon2
  have hin5 := hin4.below hb5 (Nat.le_refl _)
  have HB : Hid (Below w2.heap.size w2 w5) := hbel4.trans (hb5.mono hbel4.size)
  clear hin4 hbel4 hb5
  have hneq : (((k + r : Nat) : Int) != (k : Int) + (r : Int)) = false := by simp
  obtain ⟨_, _, hc5⟩ := hin5
  obtain ⟨b, off, ha, hb, hcs⟩ := hc5 s (by omega)
  subst ha
  by_cases hsm : s = m
  · subst hsm
    have HRS : Hid (r = s) := by
      show _ = _
      rw [HR.out, Nat.sub_self]
      rfl
    have hz : (Kk s == 0) = true := by simp [x3]
    clear x1 x3 x4 hla HR hc5
    have hrs := HRS.out
    clear HRS
    subst hrs
    go_wp2
    go_ret
    exact ⟨rfl, HB.out⟩
  · have hz : (Kk s == 0) = false := by simpa using x4 s (Nat.le_refl _) (by omega)
    obtain ⟨y1, y2, y3, y4⟩ := hla
    have y3' := y3 (by omega)
    have y2' : r ≤ m := by omega
    by_cases hrm : r = m
    · have hq : ((r : Int) == (m : Int)) = true := by simp [hrm]
      clear x3 x4 hc5 HR y4 y3 hrm hsm y1 y2
      go_wp2
      go_ret
      exact ⟨rfl, HB.out⟩
    · have hq : ((r : Int) == (m : Int)) = false := by simp; omega
      have h4 : Kk (r - 1) = 4 := by
        rcases y4 with y4 | y4
        · omega
        · exact y4.2
      obtain ⟨b', off', ha', hb', hcr⟩ := hc5 (r - 1) (by omega)
      simp only [Option.some.injEq, Addr.mk.injEq, and_true] at ha'
      obtain ⟨rfl, rfl⟩ := ha'
      rw [h4] at hcr
      have hcr2 : w5.cell? ⟨b, off + ((r : Int) - 1).toNat, none⟩ = some (.int .i64 4) := by rw [show ((r : Int) - 1).toNat = r - 1 by omega]; exact hcr
      clear x3 x4 hc5 HR y4 y3 hrm hsm y1 y2 h4
      have hr1 : (0 : Int) ≤ (r : Int) - 1 := by omega
      have hr2 : (r : Int) - 1 < (j : Int) := by omega
      go_wp2
      go_ret
      exact ⟨rfl, HB.out⟩
end Go.Proofs.Qxb6617193a
