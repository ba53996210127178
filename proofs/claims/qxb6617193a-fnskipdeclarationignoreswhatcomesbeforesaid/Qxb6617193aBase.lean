import Derived.Test.Qxb6617193aProg
import Derived.Test.Qxb6617193aMem
import Derived.Test.Qxb6617193aPlain
import Derived.WalkSpells
import Derived.Below
namespace Go.Proofs.Qxb6617193a
open Go.RowKit

/-- A slice of integers that can be read: 'K' gives its elements. -/
def IsInts (w : World) (a : Option Addr) (len cap : Nat) (K : Nat → Int) : Prop :=
  len ≤ cap ∧ cap ≤ maxLen ∧ ∀ i, i < len → ∃ b off, a = some ⟨b, off, none⟩ ∧ b < w.heap.size ∧ w.cell? ⟨b, off + i, none⟩ = some (.int .i64 (K i))

theorem IsInts.below {w w' : World} {B : Nat} {a : Option Addr} {len cap : Nat} {K : Nat → Int} (h : IsInts w a len cap K) (hb : Below B w w') (hB : w.heap.size ≤ B) : IsInts w' a len cap K := by
  obtain ⟨h1, h2, h5⟩ := h
  refine ⟨h1, h2, fun i hi => ?_⟩
  obtain ⟨b, off, ha, hlt, hc⟩ := h5 i hi
  exact ⟨b, off, ha, Nat.lt_of_lt_of_le hlt hb.size, (hb.cell (p := ⟨b, off + i, none⟩) (Nat.lt_of_lt_of_le hlt hB)).trans hc⟩

def BoolPost (w : World) (e : Ending) (w' : World) : Prop := ∃ (b : Bool), e = .returned (.bool b) ∧ w' = w

theorem zzBytes3 (a : Option Addr) (len cap : Nat) (x y : Int) (w : World) (hm : len ≤ maxLen) : Calls Try.prog 5 #[.slice a len cap, .int .i64 x, .int .i64 y] w (BoolPost w) := by
  unfold maxLen at hm
  by_cases h : len ≤ 1048576
  · go_enter Try.func5, Try.ntmps5
    go_wp2
    all_goals (go_ret; exact ⟨_, rfl, rfl⟩)
  · go_enter Try.func5, Try.ntmps5
    go_wp2
    all_goals (go_ret; exact ⟨_, rfl, rfl⟩)

theorem zzBytes4 (a : Option Addr) (len cap : Nat) (a' : Option Addr) (len' cap' : Nat) (x : Int) (w : World) (hm : len ≤ maxLen) (hm' : len' ≤ maxLen) : Calls Try.prog 9 #[.slice a len cap, .slice a' len' cap', .int .i64 x] w (BoolPost w) := by
  unfold maxLen at hm hm'
  by_cases h : len ≤ 1048576
  · by_cases h' : len' ≤ 1048576
    · go_enter Try.func9, Try.ntmps9
      go_wp2
      all_goals (go_ret; exact ⟨_, rfl, rfl⟩)
    · go_enter Try.func9, Try.ntmps9
      go_wp2
      all_goals (go_ret; exact ⟨_, rfl, rfl⟩)
  · go_enter Try.func9, Try.ntmps9
    go_wp2
    all_goals (go_ret; exact ⟨_, rfl, rfl⟩)

/-- The first end of the file from 'start' on. -/
def EofAt (K : Nat → Int) (len start e : Nat) : Prop := start ≤ e ∧ e < len ∧ K e = 0 ∧ ∀ j, start ≤ j → j < e → K j ≠ 0

def EofPost (K : Nat → Int) (len start : Nat) (w : World) (e : Ending) (w' : World) : Prop :=
  ∃ r : Int, e = .returned (.int .i64 r) ∧ w' = w ∧ (r = -1 ∨ ∃ m : Nat, r = m ∧ EofAt K len start m)

set_option maxHeartbeats 1000000 in
theorem firstEof (a : Option Addr) (len cap : Nat) (K : Nat → Int) (start : Nat) (w : World) (h : IsInts w a len cap K) (hl : len ≤ 200000) (hs : start < len) :
    Calls Try.prog 6 #[.slice a len cap, .int .i64 start] w (EofPost K len start w) := by
  obtain ⟨_, _, hc⟩ := h
  go_enter Try.func6, Try.ntmps6
  go_wp2
  go_loop [5] (fun i => ∃ k : Nat, start ≤ k ∧ k ≤ len ∧ i = .int .i64 k ∧ ∀ j, start ≤ j → j < k → K j ≠ 0) (fun i => len - (intOf i).toNat)
  case atStart => exact ⟨start, Nat.le_refl _, by omega, rfl, fun j h1 h2 => absurd h1 (by omega)⟩
  case round =>
    obtain ⟨k, hk0, hk, rfl, hno⟩ := hrel
    have HN : Hid _ := hno
    clear hno
    by_cases hlt : k < len
    · obtain ⟨b, off, rfl, hb, hcell⟩ := hc k hlt
      clear hc
      by_cases hz : K k = 0
      · have hz1 : (K k == 0) = true := by simp [hz]
        have HZ : Hid (K k = 0) := hz
        clear hz
        go_wp2
        go_ret
        exact ⟨_, rfl, rfl, Or.inr ⟨k, rfl, hk0, hlt, HZ.out, HN.out⟩⟩
      · have hz1 : (K k == 0) = false := by simp [hz]
        have HZ : Hid (¬ K k = 0) := hz
        clear hz
        go_wp2
        go_round
        case rel => exact ⟨k + 1, by omega, by omega, by go_num, fun j h1 h2 => by
          by_cases hj : j = k
          · subst hj; exact HZ.out
          · exact HN.out j h1 (by omega)⟩
        case measure => simp [intOf]; omega
    · clear hc
      go_wp2
      go_ret
      exact ⟨_, rfl, rfl, Or.inl rfl⟩

set_option maxHeartbeats 2000000 in
theorem outer_any (a : Option Addr) (len cap : Nat) (K : Nat → Int) (start e : Nat) (w : World) (h : IsInts w a len cap K) (hl : len ≤ 200000) (he : e < len) (hs : start ≤ e) :
    Calls Try.prog 8 #[.slice a len cap, .int .i64 start, .int .i64 e] w fun en w' => en = .returned (.int .i64 (outG K (e - start) start 0 0 : Nat)) ∧ w' = w := by
  obtain ⟨_, _, hc⟩ := h
  go_enter Try.func8, Try.ntmps8
  go_wp2
  go_loop [7, 8, 9] (fun vb vl i => ∃ (k : Nat) (bal low : Int), start ≤ k ∧ k ≤ e ∧ i = .int .i64 k ∧ vb = .int .i64 bal ∧ vl = .int .i64 low ∧ -200000 ≤ low ∧ low ≤ bal ∧ bal ≤ k ∧ - (k : Int) ≤ low ∧ outG K (e - k) k bal low = outG K (e - start) start 0 0) (fun _ _ i => e - (intOf i).toNat)
  case atStart => exact ⟨start, 0, 0, Nat.le_refl _, hs, rfl, rfl, rfl, by omega, by omega, by omega, by omega, rfl⟩
  case round =>
    obtain ⟨k, bal, low, hk0, hk, rfl, rfl, rfl, b0, b1, b2, b3, hr⟩ := hrel
    have HR : Hid (outG K (e - k) k bal low = outG K (e - start) start 0 0) := hr
    clear hr
    by_cases hlt : k < e
    · obtain ⟨b, off, rfl, hb, hcell⟩ := hc k (by omega)
      clear hc
      have hek : e - k = (e - (k + 1)) + 1 := by omega
      obtain ⟨c, hcK⟩ : ∃ c, c = K k := ⟨_, rfl⟩
      rw [← hcK] at hcell
      have HC : Hid (c = K k) := hcK
      have HEK : Hid _ := hek
      clear hcK hek
      by_cases h4 : c = 4
      · subst h4
        by_cases hbl : bal = low
        · have hq : (bal == low) = true := by simp [hbl]
          have HB : Hid (bal = low) := hbl
          clear hbl
          go_wp2
          go_ret
          refine ⟨?_, rfl⟩
          have h1 := HR.out
          rw [HEK.out, outG_stop HC.out.symm HB.out] at h1
          rw [← h1]
          rfl
        · have hq : (bal == low) = false := by simp [hbl]
          have HS : Hid _ := outG_go (K := K) (f := e - (k + 1)) (i := k) (bal := bal) (low := low) (fun h => hbl h.2)
          clear hbl
          go_wp2
          go_round
          case rel => exact ⟨k + 1, bal, low, by omega, by omega, by go_num, rfl, rfl, by omega, by omega, by omega, by omega, by
            have h1 := HR.out
            rw [HEK.out, HS.out, ← HC.out] at h1
            exact h1⟩
          case measure => simp [intOf]; omega
      · have HS : Hid _ := outG_go (K := K) (f := e - (k + 1)) (i := k) (bal := bal) (low := low) (fun h => h4 (HC.out.trans h.1))
        have hq4 : (c == 4) = false := by simp [h4]
        have hfin : ∀ bal' low', stepB c bal = bal' → stepL c bal low = low' → outG K (e - (k + 1)) (k + 1) bal' low' = outG K (e - start) start 0 0 := fun bal' low' e1 e2 => by
          have h1 := HR.out
          rw [HEK.out, HS.out, ← HC.out, e1, e2] at h1
          exact h1
        have HF : Hid _ := hfin
        clear hfin HS h4
        by_cases h12 : c = 12 ∨ c = 14
        · have HP : Hid _ := HF.out (bal + 1) low (by unfold stepB; rw [if_pos h12]) (by unfold stepL; rw [if_neg (by omega)])
          rcases h12 with h12 | h12
          all_goals
            subst h12
            go_wp2
            go_round
            case rel => exact ⟨k + 1, bal + 1, low, by omega, by omega, by go_num, rfl, rfl, by omega, by omega, by omega, by omega, HP.out⟩
            case measure => simp [intOf]; omega
        · by_cases h13 : c = 13 ∨ c = 15
          · by_cases hlow : bal - 1 < low
            · have HP : Hid _ := HF.out (bal - 1) (bal - 1) (by unfold stepB; rw [if_neg h12, if_pos h13]) (by unfold stepL; rw [if_pos h13, if_pos hlow])
              rcases h13 with h13 | h13
              all_goals
                subst h13
                clear h12
                go_wp2
                go_round
                case rel => exact ⟨k + 1, bal - 1, bal - 1, by omega, by omega, by go_num, rfl, rfl, by omega, by omega, by omega, by omega, HP.out⟩
                case measure => simp [intOf]; omega
            · have HP : Hid _ := HF.out (bal - 1) low (by unfold stepB; rw [if_neg h12, if_pos h13]) (by unfold stepL; rw [if_pos h13, if_neg hlow])
              rcases h13 with h13 | h13
              all_goals
                subst h13
                clear h12
                go_wp2
                go_round
                case rel => exact ⟨k + 1, bal - 1, low, by omega, by omega, by go_num, rfl, rfl, by omega, by omega, by omega, by omega, HP.out⟩
                case measure => simp [intOf]; omega
          · have HP : Hid _ := HF.out bal low (by unfold stepB; rw [if_neg h12, if_neg h13]) (by unfold stepL; rw [if_neg h13])
            have q12 : (c == 12) = false := by simp; omega
            have q14 : (c == 14) = false := by simp; omega
            have q13 : (c == 13) = false := by simp; omega
            have q15 : (c == 15) = false := by simp; omega
            clear h12 h13
            go_wp2
            go_round
            case rel => exact ⟨k + 1, bal, low, by omega, by omega, by go_num, rfl, rfl, by omega, by omega, by omega, by omega, HP.out⟩
            case measure => simp [intOf]; omega
    · obtain rfl : k = e := by omega
      clear hc
      go_wp2
      go_ret
      refine ⟨?_, rfl⟩
      have h1 := HR.out
      rw [Nat.sub_self] at h1
      rw [← h1]
      rfl
end Go.Proofs.Qxb6617193a
