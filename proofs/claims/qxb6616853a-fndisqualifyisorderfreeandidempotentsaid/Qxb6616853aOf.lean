import Derived.Test.Qxb6616853aTwo
namespace Go.Proofs.Qxb6616853a
open Go.RowKit
attribute [local go_sem ↓] Go.wp_at_zero Go.wp_at_succ

set_option maxHeartbeats 2000000 in
/-- zzBytes of the second law. -/
theorem zzBytes_of (a0 : Option Addr) (len0 cap0 : Nat) (S0 : Nat → ByteArray) (s1 s2 : ByteArray) (w : World)
    (hs0 : IsStrs w a0 len0 cap0 S0) (z1 : s1.size ≤ maxLen) (z2 : s2.size ≤ maxLen) :
    Calls Try.prog 26 #[.slice a0 len0 cap0, .string s1, .string s2] w (BoolPost w) := by
  obtain ⟨hl0, hm0, hsz0, _, hc0⟩ := hs0
  unfold maxLen at *
  by_cases h20 : len0 ≤ 1048576
  · go_enter Try.func26, Try.ntmps26
    go_wp2
    go_loop [7, 8] (fun z i => ∃ (k : Nat) (q : Int), k ≤ len0 ∧ i = .int .i64 k ∧ z = .int .i64 q ∧ 0 ≤ q ∧ q ≤ 1048576) (fun _ i => len0 - (intOf i).toNat)
    case atStart => exact ⟨0, len0, Nat.zero_le _, rfl, rfl, by omega, by omega⟩
    case round =>
      obtain ⟨k, q, hk, rfl, rfl, hq0, hq1⟩ := hrel
      by_cases hlt : k < len0
      · obtain ⟨b, off, rfl, hb, hcell⟩ := hc0 k hlt
        have hsk := hsz0 k
        clear hc0 hsz0
        go_wp2
        · go_ret
          exact ⟨_, rfl, rfl⟩
        · go_ret
          exact ⟨_, rfl, rfl⟩
        · go_round
          case rel => exact ⟨k + 1, q + (S0 k).size, by omega, by go_num, by go_num, by omega, by omega⟩
          case measure => simp [intOf]; omega
      · clear hc0 hsz0
        go_wp2
        all_goals (go_ret; exact ⟨_, rfl, rfl⟩)
  · go_enter Try.func26, Try.ntmps26
    go_wp2
    go_ret
    exact ⟨_, rfl, rfl⟩

set_option maxRecDepth 20000 in
set_option maxHeartbeats 4000000 in
theorem ofLaw (a0 : Option Addr) (len cap : Nat) (S : Nat → ByteArray) (sa sb : ByteArray) (w : World)
    (hs : IsStrs w a0 len cap S) (z1 : sa.size ≤ maxLen) (z2 : sb.size ≤ maxLen) :
    Calls Try.prog 6 #[.slice a0 len cap, .string sa, .string sb] w (TruePost w) := by
  have hl := hs.1
  have hm := hs.2.1
  have hzb := zzBytes_of a0 len cap S sa sb w hs z1 z2
  have Z1 : Hid (sa.size ≤ maxLen) := z1
  have Z2 : Hid (sb.size ≤ maxLen) := z2
  have HS : Hid _ := hs.2.2.2.2
  unfold maxLen at z1 z2 hm
  go_enter Try.func6, Try.ntmps6
  go_wp2_with fail
  refine hzb.mono ?_
  rintro e w' ⟨b, rfl, hw⟩
  obtain rfl := hw
  cases b
  · go_wp2
    go_ret
    exact ⟨rfl, Below.refl _ _⟩
  clear hzb
  go_wp2_with fail
  all_goals (try (go_ret; exact ⟨rfl, Below.refl _ _⟩))
  refine (zzStringsFit_any _ a0 len cap S _ hs (by omega) (by omega)).mono ?_
  rintro e w' ⟨mm, ok, rfl, hw, _, _⟩
  obtain rfl := hw
  have hlen : len ≤ 4096 := by omega
  clear hs
  cases ok
  · go_wp2
    go_ret
    exact ⟨rfl, Below.refl _ _⟩
  go_wp2_with fail
  refine (newLedger_any _ _).mono ?_
  rintro e w1 ⟨L1, dm1, sm1, rfl, k1, k2, k3, k4, k5, k6, k7, hb1⟩
  obtain ⟨F1, hl1, hf1⟩ := isLed_new k1 k2 k3 k4 k5 k6 k7
  clear k1 k2 k3 k4 k5 k6 k7
  go_wp2_with fail
  refine (newLedger_any _ _).mono ?_
  rintro e w2 ⟨L2, dm2, sm2, rfl, k1, k2, k3, k4, k5, k6, k7, hb2⟩
  obtain ⟨F2, hl2, hf2⟩ := isLed_new k1 k2 k3 k4 k5 k6 k7
  have h2 : TwoLed w' w2 L1 L2 ⟨#[111]⟩ [] [] [] [] [] [] := ⟨F1, F2, hl1.below hb2 (Nat.le_refl _), hl2, fun k a b => absurd (hl1.lt k a) (by have := hf2 k b; omega), hf1, fun k hk => Nat.le_trans hb1.size (hf2 k hk), hb1.trans (hb2.mono hb1.size)⟩
  clear k1 k2 k3 k4 k5 k6 k7 hl1 hf1 hl2 hf2 hb1 hb2
  go_wp2
  go_loopw [11] (fun i wr => ∃ k : Nat, k ≤ len ∧ i = .int .i64 k ∧ TwoLed w' wr L1 L2 ⟨#[111]⟩ [] (Tl S k) (List.range k) [] (Tl S k) (List.range k)) (fun i _ => len - (intOf i).toNat)
  case atStart => exact ⟨0, Nat.zero_le _, rfl, h2⟩
  case round =>
  obtain ⟨k, hk, rfl, hT⟩ := hrel
  clear h2
  by_cases hlt : k < len
  · obtain ⟨b, off, rfl, hb, hc⟩ := HS.out k hlt
    have hc1 := (hT.bel.cell (p := ⟨b, off + k, none⟩) hb).trans hc
    have hsub := two_submit (S k) hT (by rw [Tl_length]; omega) (by simp; omega)
    clear hT
    go_wp2_with fail
    refine hsub.mono ?_
    rintro e w3 ⟨rfl, hT3⟩
    have hc3 := (hT3.bel.cell (p := ⟨b, off + k, none⟩) hb).trans hc
    have hsub2 := two_submit' (S k) hT3 (by rw [Tl_length]; omega) (by simp; omega)
    clear hT3 hsub hc1
    go_wp2_with fail
    refine hsub2.mono ?_
    rintro e w4 ⟨rfl, hT4⟩
    clear hsub2 hc3
    rw [Tl_length, ← Tl_succ, ← List.range_succ] at hT4
    go_wp2
    go_roundw
    case rel => exact ⟨k + 1, by omega, by go_num, hT4⟩
    case measure => simp [intOf]; omega
  obtain rfl : k = len := by omega
  clear hlt hk
  go_wp2_with fail
  refine (two_disq sa Z1.out hT (by simp; omega)).mono ?_
  rintro e w3 ⟨rfl, hT3⟩
  clear hT
  have hd1 := dropQ_le (Tl S k) sa (List.range k)
  rw [List.length_range] at hd1
  go_wp2_with fail
  refine (two_disq sb Z2.out hT3 (by omega)).mono ?_
  rintro e w4 ⟨rfl, hT4⟩
  clear hT3
  go_wp2_with fail
  refine (two_disq' sb Z2.out hT4 (by simp; omega)).mono ?_
  rintro e w5 ⟨rfl, hT5⟩
  clear hT4
  have hd2 := dropQ_le (Tl S k) sb (List.range k)
  rw [List.length_range] at hd2
  go_wp2_with fail
  refine (two_disq' sa Z1.out hT5 (by omega)).mono ?_
  rintro e w6 ⟨rfl, hT6⟩
  clear hT5
  have hd3 := dropQ_le (Tl S k) sa (dropQ (Tl S k) sb (List.range k))
  go_wp2_with fail
  refine (two_disq' sa Z1.out hT6 (by omega)).mono ?_
  rintro e w7 ⟨rfl, hT7⟩
  clear hT6 hd1 hd2 hd3
  rw [queue1, queue2] at hT7
  have hbel := hT7.bel
  go_wp2
  go_loop [12, 13] (fun kv i => ∃ j : Nat, j ≤ k ∧ i = .int .i64 j ∧ kv = .int .i64 (cnt2 S sa sb j)) (fun _ i => k - (intOf i).toNat)
  case atStart => exact ⟨0, Nat.zero_le _, rfl, rfl⟩
  case round =>
  obtain ⟨j, hj, rfl, rfl⟩ := hrel
  have hcl := cnt2_le S sa sb j
  by_cases hlt : j < k
  · obtain ⟨b, off, rfl, hb, hc⟩ := HS.out j hlt
    have hc1 := (hbel.cell (p := ⟨b, off + j, none⟩) hb).trans hc
    clear hT7
    cases ha : eqS (S j) sa
    · cases hb' : eqS (S j) sb
      · have HK : Hid _ := cnt2_yes (S := S) (a := sa) (b := sb) (k := j) (by unfold keep2; rw [ha, hb']; rfl)
        have ha1 : ((S j).toList == sa.toList) = false := ha
        have hb1 : ((S j).toList == sb.toList) = false := hb'
        clear ha hb'
        go_wp2
        go_round
        case rel => exact ⟨j + 1, by omega, by go_num, by rw [HK.out]; go_num⟩
        case measure => simp [intOf]; omega
      · have HK : Hid _ := cnt2_no (S := S) (a := sa) (b := sb) (k := j) (by unfold keep2; rw [ha, hb']; rfl)
        have ha1 : ((S j).toList == sa.toList) = false := ha
        have hb1 : ((S j).toList == sb.toList) = true := hb'
        clear ha hb'
        go_wp2
        go_round
        case rel => exact ⟨j + 1, by omega, by go_num, by rw [HK.out]⟩
        case measure => simp [intOf]; omega
    · have HK : Hid _ := cnt2_no (S := S) (a := sa) (b := sb) (k := j) (by unfold keep2; rw [ha]; rfl)
      have ha1 : ((S j).toList == sa.toList) = true := ha
      clear ha
      go_wp2
      go_round
      case rel => exact ⟨j + 1, by omega, by go_num, by rw [HK.out]⟩
      case measure => simp [intOf]; omega
  obtain rfl : j = k := by omega
  clear hlt hj
  obtain ⟨F1, F2, i1, i2, _, _, _, _⟩ := hT7
  have q1 : Calls Try.prog 21 #[.pointer (some ⟨L1, 0, none⟩)] w7 fun e wa => e = .returned (.int .i64 (cnt2 S sa sb j)) ∧ wa = w7 := queueLen_any _ _ _ _ _ _ _ i1
  have q2 : Calls Try.prog 21 #[.pointer (some ⟨L2, 0, none⟩)] w7 fun e wa => e = .returned (.int .i64 (cnt2 S sa sb j)) ∧ wa = w7 := queueLen_any _ _ _ _ _ _ _ i2
  have hid : ∀ t : Nat, t < cnt2 S sa sb j → ∃ x : Nat, (Calls Try.prog 22 #[.pointer (some ⟨L1, 0, none⟩), .int .i64 t] w7 fun e wa => e = .returned (.int .i64 ((x : Int) + 1)) ∧ wa = w7) ∧ (Calls Try.prog 22 #[.pointer (some ⟨L2, 0, none⟩), .int .i64 t] w7 fun e wa => e = .returned (.int .i64 ((x : Int) + 1)) ∧ wa = w7) := by
    intro t ht
    have hx := List.getElem?_eq_getElem (l := (List.range j).filter (keep2 S sa sb)) (i := t) ht
    exact ⟨_, queueID_any _ _ _ _ _ _ _ t _ i1 hx, queueID_any _ _ _ _ _ _ _ t _ i2 hx⟩
  have m1 := disq_any _ _ _ _ _ _ _ sa Z1.out i1
  have m2 := disq_any _ _ _ _ _ _ _ sb Z2.out i1
  have m3 := disq_any _ _ _ _ _ _ _ sa Z1.out i2
  have m4 := disq_any _ _ _ _ _ _ _ sb Z2.out i2
  rw [memB_iff.2 (addS_sub addS_mem)] at m1
  rw [memB_iff.2 addS_mem] at m2
  rw [memB_iff.2 addS_mem] at m3
  rw [memB_iff.2 (addS_sub (addS_sub addS_mem))] at m4
  have d1 := disqLen_any _ _ _ _ _ _ _ i1
  have d2 := disqLen_any _ _ _ _ _ _ _ i2
  clear i1 i2
  generalize cnt2 S sa sb j = c at *
  cases he : eqS sa sb
  ·
    have hwant : (addS (addS [] sa) sb).length = 2 := by rw [addS_len, he]; rfl
    have hwant2 : (addS (addS (addS [] sb) sa) sa).length = 2 := by rw [addS_len2, he]; rfl
    rw [hwant] at d1
    rw [hwant2] at d2
    have he1 : (sa.toList == sb.toList) = false := he
    clear he hwant hwant2
    go_wp2_with fail
    refine q1.mono ?_
    rintro e wa ⟨rfl, hwa⟩
    obtain rfl := hwa
    go_wp2_with fail
    refine q2.mono ?_
    rintro e wa ⟨rfl, hwa⟩
    obtain rfl := hwa
    clear q1 q2
    go_wp2
    go_loop [15] (fun i => ∃ t : Nat, t ≤ c ∧ i = .int .i64 t) (fun i => c - (intOf i).toNat)
    case atStart => exact ⟨0, Nat.zero_le _, rfl⟩
    case round =>
    obtain ⟨t, ht, rfl⟩ := hrel
    by_cases hlt : t < c
    · obtain ⟨x, hx1, hx2⟩ := hid t hlt
      clear m1 m2 m3 m4 d1 d2 hid
      go_wp2_with fail
      refine hx1.mono ?_
      rintro e wa ⟨rfl, hwa⟩
      obtain rfl := hwa
      go_wp2_with fail
      refine hx2.mono ?_
      rintro e wa ⟨rfl, hwa⟩
      obtain rfl := hwa
      go_wp2
      go_round
      case rel => exact ⟨t + 1, by omega, by go_num⟩
      case measure => simp [intOf]; omega
    · clear hid
      go_wp2_with fail
      refine m1.mono ?_
      rintro e wa ⟨rfl, hwa⟩
      obtain rfl := hwa
      go_wp2_with fail
      refine m2.mono ?_
      rintro e wa ⟨rfl, hwa⟩
      obtain rfl := hwa
      go_wp2_with fail
      refine m3.mono ?_
      rintro e wa ⟨rfl, hwa⟩
      obtain rfl := hwa
      go_wp2_with fail
      refine m4.mono ?_
      rintro e wa ⟨rfl, hwa⟩
      obtain rfl := hwa
      go_wp2_with fail
      refine d1.mono ?_
      rintro e wa ⟨rfl, hwa⟩
      obtain rfl := hwa
      go_wp2_with fail
      refine d2.mono ?_
      rintro e wa ⟨rfl, hwa⟩
      obtain rfl := hwa
      go_wp2
      go_ret
      exact ⟨rfl, hbel⟩
  ·
    have hwant : (addS (addS [] sa) sb).length = 1 := by rw [addS_len, he]; rfl
    have hwant2 : (addS (addS (addS [] sb) sa) sa).length = 1 := by rw [addS_len2, he]; rfl
    rw [hwant] at d1
    rw [hwant2] at d2
    have he1 : (sa.toList == sb.toList) = true := he
    clear he hwant hwant2
    go_wp2_with fail
    refine q1.mono ?_
    rintro e wa ⟨rfl, hwa⟩
    obtain rfl := hwa
    go_wp2_with fail
    refine q2.mono ?_
    rintro e wa ⟨rfl, hwa⟩
    obtain rfl := hwa
    clear q1 q2
    go_wp2
    go_loop [15] (fun i => ∃ t : Nat, t ≤ c ∧ i = .int .i64 t) (fun i => c - (intOf i).toNat)
    case atStart => exact ⟨0, Nat.zero_le _, rfl⟩
    case round =>
    obtain ⟨t, ht, rfl⟩ := hrel
    by_cases hlt : t < c
    · obtain ⟨x, hx1, hx2⟩ := hid t hlt
      clear m1 m2 m3 m4 d1 d2 hid
      go_wp2_with fail
      refine hx1.mono ?_
      rintro e wa ⟨rfl, hwa⟩
      obtain rfl := hwa
      go_wp2_with fail
      refine hx2.mono ?_
      rintro e wa ⟨rfl, hwa⟩
      obtain rfl := hwa
      go_wp2
      go_round
      case rel => exact ⟨t + 1, by omega, by go_num⟩
      case measure => simp [intOf]; omega
    · clear hid
      go_wp2_with fail
      refine m1.mono ?_
      rintro e wa ⟨rfl, hwa⟩
      obtain rfl := hwa
      go_wp2_with fail
      refine m2.mono ?_
      rintro e wa ⟨rfl, hwa⟩
      obtain rfl := hwa
      go_wp2_with fail
      refine m3.mono ?_
      rintro e wa ⟨rfl, hwa⟩
      obtain rfl := hwa
      go_wp2_with fail
      refine m4.mono ?_
      rintro e wa ⟨rfl, hwa⟩
      obtain rfl := hwa
      go_wp2_with fail
      refine d1.mono ?_
      rintro e wa ⟨rfl, hwa⟩
      obtain rfl := hwa
      go_wp2_with fail
      refine d2.mono ?_
      rintro e wa ⟨rfl, hwa⟩
      obtain rfl := hwa
      go_wp2
      go_ret
      exact ⟨rfl, hbel⟩
end Go.Proofs.Qxb6616853a
