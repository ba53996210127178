import Derived.Test.Qxb6616853aProg
import Derived.WalkKit
import Derived.WalkSpells
import Derived.Below
namespace Go.Proofs.Qxb6616853a
open Go.RowKit

/-- A slice of strings that can be read: 'S' gives its elements. -/
def IsStrs (w : World) (a : Option Addr) (len cap : Nat) (S : Nat → ByteArray) : Prop :=
  len ≤ cap ∧ cap ≤ maxLen ∧ (∀ i, (S i).size ≤ maxLen) ∧ (a = none → len = 0 ∧ cap = 0) ∧
    ∀ i, i < len → ∃ b off, a = some ⟨b, off, none⟩ ∧ b < w.heap.size ∧ w.cell? ⟨b, off + i, none⟩ = some (.string (S i))

/-- Two results, a number from 0 to 2^20 and a bool; nothing has turned. -/
def TwoPost (w : World) (e : Ending) (w' : World) : Prop := ∃ (m : Int) (b : Bool), e = .returned (.tuple #[.int .i64 m, .bool b]) ∧ w' = w ∧ 0 ≤ m ∧ m ≤ 1048576

/-- One result, a bool; nothing has turned. -/
def BoolPost (w : World) (e : Ending) (w' : World) : Prop := ∃ (b : Bool), e = .returned (.bool b) ∧ w' = w

theorem zzAdd_any (n k : Int) (w : World) (h0 : 0 ≤ n) (h1 : n ≤ 1048576) :
    Calls Try.prog 14 #[.int .i64 n, .int .i64 k] w (TwoPost w) := by
  by_cases hk : 0 ≤ k
  · by_cases hs : k ≤ 1048576 - n
    · go_enter Try.func14, Try.ntmps14
      go_wp2
      go_ret2
      exact ⟨_, _, rfl, rfl, by omega, by omega⟩
    · go_enter Try.func14, Try.ntmps14
      go_wp2
      go_ret2
      exact ⟨_, _, rfl, rfl, by omega, by omega⟩
  · go_enter Try.func14, Try.ntmps14
    go_wp2
    go_ret2
    exact ⟨_, _, rfl, rfl, by omega, by omega⟩

set_option maxHeartbeats 1000000 in
theorem zzStringsFit_any (n : Int) (a : Option Addr) (len cap : Nat) (S : Nat → ByteArray) (w : World) (hs : IsStrs w a len cap S) (h0 : 0 ≤ n) (h1 : n ≤ 1048576) :
    Calls Try.prog 15 #[.int .i64 n, .slice a len cap] w (TwoPost w) := by
  obtain ⟨hl, hm, hsz, _, hc⟩ := hs
  unfold maxLen at hm hsz
  by_cases h16 : len ≤ 65536
  · go_enter Try.func15, Try.ntmps15
    go_wp2_with fail
    refine (zzAdd_any _ _ _ h0 h1).mono ?_
    rintro e w' ⟨m, ok, rfl, rfl, hm0, hm1⟩
    go_wp2
    go_loop [6, 7, 8] (fun m ok i => ∃ (k : Nat) (q : Int) (t : Bool), k ≤ len ∧ i = .int .i64 k ∧ m = .int .i64 q ∧ ok = .bool t ∧ 0 ≤ q ∧ q ≤ 1048576) (fun _ _ i => len - (intOf i).toNat)
    case atStart => exact ⟨0, m, ok, Nat.zero_le _, rfl, rfl, rfl, hm0, hm1⟩
    case round =>
      obtain ⟨k, q, t, hk, rfl, rfl, rfl, hq0, hq1⟩ := hrel
      by_cases hlt : k < len
      · cases t
        · go_wp2
          go_ret2
          exact ⟨_, _, rfl, rfl, hq0, hq1⟩
        · obtain ⟨b, off, rfl, hb, hcell⟩ := hc k hlt
          have hsk := hsz k
          clear hc hsz
          go_wp2_with fail
          refine (zzAdd_any _ _ _ hq0 hq1).mono ?_
          rintro e w' ⟨m', ok', rfl, rfl, hm0', hm1'⟩
          go_wp2
          go_round
          case rel => exact ⟨k + 1, m', ok', by omega, by go_num, rfl, rfl, hm0', hm1'⟩
          case measure => simp [intOf]; omega
      · go_wp2
        go_ret2
        exact ⟨_, _, rfl, rfl, hq0, hq1⟩
  · go_enter Try.func15, Try.ntmps15
    go_wp2
    go_ret2
    exact ⟨_, _, rfl, rfl, h0, h1⟩

set_option maxHeartbeats 2000000 in
/-- zzBytes of the compilers' law. -/
theorem zzBytes_hc (a0 : Option Addr) (len0 cap0 : Nat) (S0 : Nat → ByteArray) (a1 : Option Addr) (len1 cap1 : Nat) (S1 : Nat → ByteArray) (k : Int) (s3 s4 s5 : ByteArray) (w : World)
    (hs0 : IsStrs w a0 len0 cap0 S0) (hs1 : IsStrs w a1 len1 cap1 S1) (z3 : s3.size ≤ maxLen) (z4 : s4.size ≤ maxLen) (z5 : s5.size ≤ maxLen) :
    Calls Try.prog 27 #[.slice a0 len0 cap0, .slice a1 len1 cap1, .int .i64 k, .string s3, .string s4, .string s5] w (BoolPost w) := by
  obtain ⟨hl0, hm0, hsz0, _, hc0⟩ := hs0
  obtain ⟨hl1, hm1, hsz1, _, hc1⟩ := hs1
  unfold maxLen at *
  by_cases h20 : len0 ≤ 1048576
  · go_enter Try.func27, Try.ntmps27
    go_wp2
    go_loop [13, 14] (fun z i => ∃ (k : Nat) (q : Int), k ≤ len0 ∧ i = .int .i64 k ∧ z = .int .i64 q ∧ 0 ≤ q ∧ q ≤ 1048576) (fun _ i => len0 - (intOf i).toNat)
    case atStart => exact ⟨0, len0, Nat.zero_le _, rfl, rfl, by omega, by omega⟩
    case round =>
      obtain ⟨k, q, hk, rfl, rfl, hq0, hq1⟩ := hrel
      by_cases hlt : k < len0
      · obtain ⟨b, off, rfl, hb, hcell⟩ := hc0 k hlt
        have hsk := hsz0 k
        clear hc0 hsz0 hc1 hsz1
        go_wp2
        · go_ret
          exact ⟨_, rfl, rfl⟩
        · go_ret
          exact ⟨_, rfl, rfl⟩
        · go_round
          case rel => exact ⟨k + 1, q + (S0 k).size, by omega, by go_num, by go_num, by omega, by omega⟩
          case measure => simp [intOf]; omega
      · clear hc0 hsz0
        by_cases h21 : len1 ≤ 1048576
        · by_cases h22 : q + len1 ≤ 1048576
          · go_wp2
            go_loop [13, 15] (fun z i => ∃ (k : Nat) (q : Int), k ≤ len1 ∧ i = .int .i64 k ∧ z = .int .i64 q ∧ 0 ≤ q ∧ q ≤ 1048576) (fun _ i => len1 - (intOf i).toNat)
            case atStart => exact ⟨0, q + len1, Nat.zero_le _, rfl, rfl, by omega, by omega⟩
            case round =>
              obtain ⟨k, q, hk, rfl, rfl, hq0, hq1⟩ := hrel
              by_cases hlt : k < len1
              · obtain ⟨b, off, rfl, hb, hcell⟩ := hc1 k hlt
                have hsk := hsz1 k
                clear hc1 hsz1
                go_wp2
                · go_ret
                  exact ⟨_, rfl, rfl⟩
                · go_ret
                  exact ⟨_, rfl, rfl⟩
                · go_round
                  case rel => exact ⟨k + 1, q + (S1 k).size, by omega, by go_num, by go_num, by omega, by omega⟩
                  case measure => simp [intOf]; omega
              · clear hc1 hsz1
                go_wp2
                all_goals (go_ret; exact ⟨_, rfl, rfl⟩)
          · go_wp2
            all_goals (go_ret; exact ⟨_, rfl, rfl⟩)
        · go_wp2
          all_goals (go_ret; exact ⟨_, rfl, rfl⟩)
  · go_enter Try.func27, Try.ntmps27
    go_wp2
    go_ret
    exact ⟨_, rfl, rfl⟩

end Go.Proofs.Qxb6616853a
