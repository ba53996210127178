import Derived.Test.Qxb6616853aDst
namespace Go.Proofs.Qxb6616853a
open Go.RowKit
attribute [local go_sem ↓] Go.wp_at_zero Go.wp_at_succ

set_option maxHeartbeats 2000000 in
/-- zzBytes of the third law. -/
theorem zzBytes_dj (s0 : ByteArray) (a1 : Option Addr) (len0 cap0 : Nat) (S0 : Nat → ByteArray) (a2 : Option Addr) (len1 cap1 : Nat) (S1 : Nat → ByteArray) (s3 : ByteArray) (w : World)
    (hs0 : IsStrs w a1 len0 cap0 S0) (hs1 : IsStrs w a2 len1 cap1 S1) (z0 : s0.size ≤ maxLen) (z3 : s3.size ≤ maxLen) :
    Calls Try.prog 13 #[.string s0, .slice a1 len0 cap0, .slice a2 len1 cap1, .string s3] w (BoolPost w) := by
  obtain ⟨hl0, hm0, hsz0, _, hc0⟩ := hs0
  obtain ⟨hl1, hm1, hsz1, _, hc1⟩ := hs1
  unfold maxLen at *
  by_cases h10 : s0.size ≤ 1048576
  · by_cases h20 : len0 ≤ 1048576
    · by_cases h30 : s0.size + len0 ≤ 1048576
      · go_enter Try.func13, Try.ntmps13
        go_wp2
        go_loop [9, 10] (fun z i => ∃ (k : Nat) (q : Int), k ≤ len0 ∧ i = .int .i64 k ∧ z = .int .i64 q ∧ 0 ≤ q ∧ q ≤ 1048576) (fun _ i => len0 - (intOf i).toNat)
        case atStart => exact ⟨0, s0.size + len0, Nat.zero_le _, rfl, by go_num, by omega, by omega⟩
        case round =>
          obtain ⟨k, q, hk, rfl, rfl, hq0, hq1⟩ := hrel
          by_cases hlt : k < len0
          · obtain ⟨b, off, rfl, hb, hcell⟩ := hc0 k hlt
            have hsk := hsz0 k
            clear hc0 hsz0 hc1 hsz1
            go_wp2
            · go_ret
              exact ⟨_, rfl, rfl⟩
            · go_ret
              exact ⟨_, rfl, rfl⟩
            · go_round
              case rel => exact ⟨k + 1, q + (S0 k).size, by omega, by go_num, by go_num, by omega, by omega⟩
              case measure => simp [intOf]; omega
          · clear hc0 hsz0
            by_cases h21 : len1 ≤ 1048576
            · by_cases h22 : q + len1 ≤ 1048576
              · go_wp2
                go_loop [9, 11] (fun z i => ∃ (k : Nat) (q : Int), k ≤ len1 ∧ i = .int .i64 k ∧ z = .int .i64 q ∧ 0 ≤ q ∧ q ≤ 1048576) (fun _ i => len1 - (intOf i).toNat)
                case atStart => exact ⟨0, q + len1, Nat.zero_le _, rfl, rfl, by omega, by omega⟩
                case round =>
                  obtain ⟨k, q, hk, rfl, rfl, hq0, hq1⟩ := hrel
                  by_cases hlt : k < len1
                  · obtain ⟨b, off, rfl, hb, hcell⟩ := hc1 k hlt
                    have hsk := hsz1 k
                    clear hc1 hsz1
                    go_wp2
                    · go_ret
                      exact ⟨_, rfl, rfl⟩
                    · go_ret
                      exact ⟨_, rfl, rfl⟩
                    · go_round
                      case rel => exact ⟨k + 1, q + (S1 k).size, by omega, by go_num, by go_num, by omega, by omega⟩
                      case measure => simp [intOf]; omega
                  · clear hc1 hsz1
                    go_wp2
                    all_goals (go_ret; exact ⟨_, rfl, rfl⟩)
              · go_wp2
                all_goals (go_ret; exact ⟨_, rfl, rfl⟩)
            · go_wp2
              all_goals (go_ret; exact ⟨_, rfl, rfl⟩)
      · clear hc0 hsz0 hc1 hsz1
        go_enter Try.func13, Try.ntmps13
        go_wp2
        all_goals (go_ret; exact ⟨_, rfl, rfl⟩)
    · clear hc0 hsz0 hc1 hsz1
      go_enter Try.func13, Try.ntmps13
      go_wp2
      all_goals (go_ret; exact ⟨_, rfl, rfl⟩)
  · clear hc0 hsz0 hc1 hsz1
    go_enter Try.func13, Try.ntmps13
    go_wp2
    all_goals (go_ret; exact ⟨_, rfl, rfl⟩)

theorem OneLed.bel {w wr : World} {L : Nat} {nm : ByteArray} {D T : List ByteArray} {Q : List Nat} (h : OneLed w wr L nm D T Q) : Below w.heap.size w wr := by
  obtain ⟨F, _, _, h3⟩ := h
  exact h3

theorem IsStrs.lift {w w' : World} {a : Option Addr} {len cap : Nat} {S : Nat → ByteArray} (h : IsStrs w a len cap S) (hb : Below w.heap.size w w') : IsStrs w' a len cap S := by
  obtain ⟨h1, h2, h3, h4, h5⟩ := h
  refine ⟨h1, h2, h3, h4, fun i hi => ?_⟩
  obtain ⟨b, off, ha, hlt, hc⟩ := h5 i hi
  exact ⟨b, off, ha, Nat.lt_of_lt_of_le hlt hb.size, (hb.cell (p := ⟨b, off + i, none⟩) hlt).trans hc⟩

theorem dropQ_nil (T : List ByteArray) (c : ByteArray) : dropQ T c [] = [] := rfl

theorem IsLed.quiet {w w' : World} {F : Nat → Prop} {L : Nat} {nm : ByteArray} {D T : List ByteArray} {Q : List Nat} (h : IsLed w F L nm D T Q) (hq : Quiet w w') : IsLed w' F L nm D T Q :=
  h.below (hq.below w.heap.size) (Nat.le_refl _)

set_option maxRecDepth 20000 in
set_option maxHeartbeats 4000000 in
theorem djLaw (nm : ByteArray) (a1 : Option Addr) (len1 cap1 : Nat) (E : Nat → ByteArray) (a2 : Option Addr) (len2 cap2 : Nat) (S : Nat → ByteArray) (code : ByteArray) (w : World)
    (z0 : nm.size ≤ maxLen) (hs1 : IsStrs w a1 len1 cap1 E) (hs2 : IsStrs w a2 len2 cap2 S) (z3 : code.size ≤ maxLen) :
    Calls Try.prog 5 #[.string nm, .slice a1 len1 cap1, .slice a2 len2 cap2, .string code] w (TruePost w) := by
  have hm1 := Nat.le_trans hs1.1 hs1.2.1
  have hm2 := Nat.le_trans hs2.1 hs2.2.1
  have hzb := zzBytes_dj nm a1 len1 cap1 E a2 len2 cap2 S code w hs1 hs2 z0 z3
  have Z3 : Hid (code.size ≤ maxLen) := z3
  have HE : Hid _ := hs1.2.2.2.2
  have HEZ : Hid _ := hs1.2.2.1
  have HS : Hid _ := hs2.2.2.2.2
  unfold maxLen at z0 z3 hm1 hm2
  go_enter Try.func5, Try.ntmps5
  go_wp2_with fail
  refine hzb.mono ?_
  rintro e w' ⟨b, rfl, hw⟩
  obtain rfl := hw
  cases b
  · go_wp2
    go_ret
    exact ⟨rfl, Below.refl _ _⟩
  clear hzb
  go_wp2_with fail
  all_goals (try (go_ret; exact ⟨rfl, Below.refl _ _⟩))
  have hl1 : len1 ≤ 4096 := by omega
  have hl2 : len2 ≤ 4096 := by omega
  refine (zzAdd_any _ _ _ (by omega) (by omega)).mono ?_
  rintro e w' ⟨n1, ok, rfl, hw, hn0, hn1⟩
  obtain rfl := hw
  cases ok
  · go_wp2
    go_ret
    exact ⟨rfl, Below.refl _ _⟩
  go_wp2_with fail
  refine (zzStringsFit_any _ a1 len1 cap1 E _ hs1 hn0 hn1).mono ?_
  rintro e w' ⟨n2, ok, rfl, hw, hn2, hn3⟩
  obtain rfl := hw
  cases ok
  · go_wp2
    go_ret
    exact ⟨rfl, Below.refl _ _⟩
  go_wp2_with fail
  refine (zzStringsFit_any _ a2 len2 cap2 S _ hs2 hn2 hn3).mono ?_
  rintro e w' ⟨n3, ok, rfl, hw, _, _⟩
  obtain rfl := hw
  cases ok
  · go_wp2
    go_ret
    exact ⟨rfl, Below.refl _ _⟩
  have HS1 : Hid (IsStrs w' a1 len1 cap1 E) := hs1
  clear hs1 hs2
  go_wp2_with fail
  refine (newLedger_any _ _).mono ?_
  rintro e w1 ⟨L, dm1, sm1, rfl, k1, k2, k3, k4, k5, k6, k7, hb1⟩
  obtain ⟨F1, hl1', hf1⟩ := isLed_new k1 k2 k3 k4 k5 k6 k7
  have h2 : OneLed w' w1 L nm [] [] [] := ⟨F1, hl1', hf1, hb1⟩
  clear k1 k2 k3 k4 k5 k6 k7 hl1' hf1 hb1
  go_wp2
  go_loopw [12] (fun i wr => ∃ k : Nat, k ≤ len1 ∧ i = .int .i64 k ∧ OneLed w' wr L nm (Dk E k) [] []) (fun i _ => len1 - (intOf i).toNat)
  case atStart => exact ⟨0, Nat.zero_le _, rfl, h2⟩
  case round =>
  obtain ⟨k, hk, rfl, hT⟩ := hrel
  clear h2
  by_cases hlt : k < len1
  · obtain ⟨b, off, rfl, hb, hc⟩ := HE.out k hlt
    have hc1 := (hT.bel.cell (p := ⟨b, off + k, none⟩) hb).trans hc
    have hsub := one_disq (E k) (HEZ.out k) hT (by simp)
    clear hT
    go_wp2_with fail
    refine hsub.mono ?_
    rintro e w3 ⟨rfl, hT3⟩
    clear hsub hc1
    go_wp2
    go_roundw
    case rel => exact ⟨k + 1, by omega, by go_num, hT3⟩
    case measure => simp [intOf]; omega
  obtain rfl : k = len1 := by omega
  clear hlt hk
  go_wp2
  go_loopw [13] (fun i wx => ∃ j : Nat, j ≤ len2 ∧ i = .int .i64 j ∧ OneLed w' wx L nm (Dk E k) (Tl S j) (List.range j)) (fun i _ => len2 - (intOf i).toNat)
  case atStart => exact ⟨0, Nat.zero_le _, rfl, hT⟩
  case round =>
  clear hT
  obtain ⟨j, hj, rfl, hT⟩ := hrel
  by_cases hlt : j < len2
  · obtain ⟨b, off, rfl, hb, hc⟩ := HS.out j hlt
    have hc1 := (hT.bel.cell (p := ⟨b, off + j, none⟩) hb).trans hc
    have hsub := one_submit (S j) hT (by rw [Tl_length]; omega) (by simp; omega)
    clear hT
    go_wp2_with fail
    refine hsub.mono ?_
    rintro e w3 ⟨rfl, hT3⟩
    rw [Tl_length, ← Tl_succ, ← List.range_succ] at hT3
    clear hsub hc1
    go_wp2
    go_roundw
    case rel => exact ⟨j + 1, by omega, by go_num, hT3⟩
    case measure => simp [intOf]; omega
  obtain rfl : j = len2 := by omega
  clear hlt hj
  go_wp2_with fail
  refine (one_disq code Z3.out hT (by simp; omega)).mono ?_
  rintro e w3 ⟨rfl, hT3⟩
  clear hT
  rw [queue_one] at hT3
  obtain ⟨F, hl3, hf3, hbel⟩ := hT3
  have c1 := ledgerName_any _ _ _ _ _ _ _ hl3
  have c2 := subCount_any _ _ _ _ _ _ _ hl3
  rw [Tl_length] at c2
  have c3 : Calls Try.prog 21 #[.pointer (some ⟨L, 0, none⟩)] w3 fun e wa => e = .returned (.int .i64 (cnt1 S code j)) ∧ wa = w3 := queueLen_any _ _ _ _ _ _ _ hl3
  have c4 : Calls Try.prog 23 #[.pointer (some ⟨L, 0, none⟩)] w3 fun e wa => e = .returned (.int .i64 (dist E code k)) ∧ wa = w3 := disqLen_any _ _ _ _ _ _ _ hl3
  have hid : ∀ i : Nat, i < j → keep1 S code i = true → Calls Try.prog 22 #[.pointer (some ⟨L, 0, none⟩), .int .i64 (cnt1 S code i)] w3 fun e wa => e = .returned (.int .i64 ((i : Int) + 1)) ∧ wa = w3 := by
    intro i hi hk
    exact queueID_any _ _ _ _ _ _ _ _ _ hl3 (queue_get S code i hk j hi)
  have hst : IsStrs w3 a1 k cap1 E := IsStrs.lift HS1.out hbel
  have hdst := distinct_any a1 k cap1 E code w3 hst hl1
  have HD4 : Hid (∀ w4, Quiet w3 w4 → (Calls Try.prog 25 #[.pointer (some ⟨L, 0, none⟩), .string code] w4 fun e wa => e = .returned (.bool true) ∧ wa = w4) ∧ ∀ i, i < k → Calls Try.prog 25 #[.pointer (some ⟨L, 0, none⟩), .string (E i)] w4 fun e wa => e = .returned (.bool true) ∧ wa = w4) := by
    intro w4 hq
    have h4 := hl3.quiet hq
    refine ⟨?_, fun i hi => ?_⟩
    · have := disq_any _ _ _ _ _ _ _ code Z3.out h4
      rw [memB_iff.2 addS_mem] at this
      exact this
    · have := disq_any _ _ _ _ _ _ _ (E i) (HEZ.out i) h4
      rw [memB_iff.2 (addS_sub (mem_Dk.2 ⟨i, hi, rfl⟩))] at this
      exact this
  have HID : Hid _ := hid
  clear hid hl3 hf3 hst
  go_wp2_with fail
  refine c1.mono ?_
  rintro e wa ⟨rfl, hwa⟩
  obtain rfl := hwa
  go_wp2_with fail
  refine c2.mono ?_
  rintro e wa ⟨rfl, hwa⟩
  obtain rfl := hwa
  clear c1 c2
  go_wp2
  go_loop [14, 15] (fun kv i => ∃ t : Nat, t ≤ j ∧ i = .int .i64 t ∧ kv = .int .i64 (cnt1 S code t)) (fun _ i => j - (intOf i).toNat)
  case atStart => exact ⟨0, Nat.zero_le _, rfl, rfl⟩
  case round =>
  obtain ⟨t, ht, rfl, rfl⟩ := hrel
  have hcl := cnt1_le S code t
  by_cases hlt : t < j
  · obtain ⟨b, off, rfl, hb, hc⟩ := HS.out t hlt
    have hc1 := (hbel.cell (p := ⟨b, off + t, none⟩) hb).trans hc
    clear c3 c4 hdst
    cases ha : eqS (S t) code
    · have HK : Hid _ := cnt1_yes (S := S) (c := code) (k := t) (by unfold keep1; rw [ha]; rfl)
      have ha1 : ((S t).toList == code.toList) = false := ha
      clear ha
      go_wp2
      go_round
      case rel => exact ⟨t + 1, by omega, by go_num, by rw [HK.out]; go_num⟩
      case measure => simp [intOf]; omega
    · have HK : Hid _ := cnt1_no (S := S) (c := code) (k := t) (by unfold keep1; rw [ha]; rfl)
      have ha1 : ((S t).toList == code.toList) = true := ha
      clear ha
      go_wp2
      go_round
      case rel => exact ⟨t + 1, by omega, by go_num, by rw [HK.out]⟩
      case measure => simp [intOf]; omega
  obtain rfl : t = j := by omega
  clear hlt ht
  go_wp2_with fail
  refine c3.mono ?_
  rintro e wa ⟨rfl, hwa⟩
  obtain rfl := hwa
  clear c3
  go_wp2
  go_loop [16, 17] (fun kv i => ∃ x : Nat, x ≤ t ∧ i = .int .i64 x ∧ kv = .int .i64 (cnt1 S code x)) (fun _ i => t - (intOf i).toNat)
  case atStart => exact ⟨0, Nat.zero_le _, rfl, rfl⟩
  case round =>
  obtain ⟨x, hx, rfl, rfl⟩ := hrel
  have hcx := cnt1_le S code x
  by_cases hlt : x < t
  · obtain ⟨b, off, rfl, hb, hc⟩ := HS.out x hlt
    have hc1 := (hbel.cell (p := ⟨b, off + x, none⟩) hb).trans hc
    clear c4 hdst
    cases ha : eqS (S x) code
    · have hkk : keep1 S code x = true := by unfold keep1; rw [ha]; rfl
      have HK : Hid _ := cnt1_yes (S := S) (c := code) (k := x) hkk
      have hq := HID.out x hlt hkk
      have ha1 : ((S x).toList == code.toList) = false := ha
      clear ha hkk
      go_wp2_with fail
      refine hq.mono ?_
      rintro e wa ⟨rfl, hwa⟩
      obtain rfl := hwa
      clear hq
      go_wp2
      go_round
      case rel => exact ⟨x + 1, by omega, by go_num, by rw [HK.out]; go_num⟩
      case measure => simp [intOf]; omega
    · have HK : Hid _ := cnt1_no (S := S) (c := code) (k := x) (by unfold keep1; rw [ha]; rfl)
      have ha1 : ((S x).toList == code.toList) = true := ha
      clear ha
      go_wp2
      go_round
      case rel => exact ⟨x + 1, by omega, by go_num, by rw [HK.out]⟩
      case measure => simp [intOf]; omega
  obtain rfl : x = t := by omega
  clear hlt hx HID
  go_wp2_with fail
  refine c4.mono ?_
  rintro e wa ⟨rfl, hwa⟩
  obtain rfl := hwa
  clear c4
  go_wp2_with fail
  refine hdst.mono ?_
  rintro e w4 ⟨rfl, hq4⟩
  clear hdst
  obtain ⟨m1, m2⟩ := HD4.out w4 hq4
  have HB : Hid (Below w'.heap.size w' w4) := hbel.trans (hq4.below w'.heap.size)
  have hbel4 := HB.out
  clear HD4 hq4 hbel
  go_wp2_with fail
  refine m1.mono ?_
  rintro e wa ⟨rfl, hwa⟩
  obtain rfl := hwa
  clear m1
  have HM2 : Hid _ := m2
  clear m2
  go_wp2
  go_loop [18] (fun i => ∃ x : Nat, x ≤ k ∧ i = .int .i64 x) (fun i => k - (intOf i).toNat)
  case atStart => exact ⟨0, Nat.zero_le _, rfl⟩
  case round =>
  obtain ⟨y, hy, rfl⟩ := hrel
  by_cases hlt : y < k
  · obtain ⟨b, off, rfl, hb, hc⟩ := HE.out y hlt
    have hc1 := (hbel4.cell (p := ⟨b, off + y, none⟩) hb).trans hc
    have hq := HM2.out y hlt
    go_wp2_with fail
    refine hq.mono ?_
    rintro e wa ⟨rfl, hwa⟩
    obtain rfl := hwa
    clear hq
    go_wp2
    go_round
    case rel => exact ⟨y + 1, by omega, by go_num⟩
    case measure => simp [intOf]; omega
  · go_wp2
    go_ret
    exact ⟨rfl, hbel4⟩
end Go.Proofs.Qxb6616853a
