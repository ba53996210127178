import Derived.Test.Qxb6616853aHc
namespace Go.Proofs.Qxb6616853a
open Go.RowKit

/-- Two strings are equal, as the walk spells it. -/
def eqS (a b : ByteArray) : Bool := a.toList == b.toList

/-- One of the first 'len' names is q. -/
def hasB (len : Nat) (S : Nat → ByteArray) (q : ByteArray) : Bool := (List.range len).any fun i => eqS (S i) q

theorem hasB_yes {len : Nat} {S : Nat → ByteArray} {q : ByteArray} {k : Nat} (h : k < len) (he : eqS (S k) q = true) : hasB len S q = true := by
  unfold hasB
  rw [List.any_eq_true]
  exact ⟨k, List.mem_range.2 h, he⟩

theorem hasB_no {len : Nat} {S : Nat → ByteArray} {q : ByteArray} (h : ∀ k, k < len → eqS (S k) q = false) : hasB len S q = false := by
  unfold hasB
  rw [List.any_eq_false]
  intro k hk
  rw [h k (List.mem_range.1 hk)]
  simp

def ClosPost (s q : ByteArray) (w : World) (e : Ending) (w' : World) : Prop :=
  e = .returned (.bool (eqS s q)) ∧ Below w.heap.size w w'

theorem closure_any (s t q : ByteArray) (B : Nat) (w : World) (hB : B < w.heap.size) (hc : w.cell? ⟨B, 0, none⟩ = some (.string q)) :
    Calls Try.prog 42 #[.agg #[.string s, .string t], .pointer (some ⟨B, 0, none⟩)] w (ClosPost s q w) := by
  go_enter Try.func42, Try.ntmps42
  go_wp2
  go_ret
  exact ⟨rfl, (Below.refl _ _).alloc (Nat.le_refl _) _⟩

def IdxPost (len : Nat) (S : Nat → ByteArray) (q : ByteArray) (w : World) (e : Ending) (w' : World) : Prop :=
  ∃ r : Int, e = .returned (.int .i64 r) ∧ decide (0 ≤ r) = hasB len S q ∧ Below w.heap.size w w'

set_option maxHeartbeats 1000000 in
theorem indexFunc_any (r len : Nat) (S T : Nat → ByteArray) (q : ByteArray) (B : Nat) (w : World) (hlen : len ≤ 65537) (hrow : OlyRow w r len len S T) (hB : B < w.heap.size) (hc : w.cell? ⟨B, 0, none⟩ = some (.string q)) :
    Calls Try.prog 52 #[.slice (some ⟨r, 0, none⟩) len len, .func (.func 42) #[] #[.pointer (some ⟨B, 0, none⟩)]] w (IdxPost len S q w) := by
  obtain ⟨C, hblk, hCs, hC⟩ := hrow
  go_enter Try.func52, Try.ntmps52
  go_wp2
  go_loopw [8] (fun i wr => ∃ k : Nat, k ≤ len ∧ i = .int .i64 k ∧ (∀ j, j < k → eqS (S j) q = false) ∧ Below w.heap.size w wr) (fun i _ => len - (intOf i).toNat)
  case atStart => exact ⟨0, Nat.zero_le _, rfl, fun j hj => absurd hj (Nat.not_lt_zero _), Below.refl _ _⟩
  case round =>
    obtain ⟨k, hk, rfl, hno, hbel⟩ := hrel
    have HNO : Hid (∀ j, j < k → eqS (S j) q = false) := hno
    clear hno
    by_cases hlt : k < len
    · have g0 := (hblk.below hbel hblk.lt).cell (k * 2)
      have g1 := (hblk.below hbel hblk.lt).cell (k * 2 + 1)
      rw [(hC k hlt).1] at g0
      rw [(hC k hlt).2] at g1
      have gc : wr.cell? ⟨B, 0, none⟩ = some (.string q) := (hbel.cell (p := ⟨B, 0, none⟩) hB).trans hc
      have hB' : B < wr.heap.size := Nat.lt_of_lt_of_le hB hbel.size
      clear hblk hCs hC hc
      go_wp2_with fail
      refine (closure_any _ _ q B _ hB' gc).mono ?_
      rintro e w1 ⟨rfl, hb1⟩
      cases hq : eqS (S k) q
      · go_wp2
        go_roundw
        case rel => exact ⟨k + 1, by omega, by go_num, fun j hj => by
          by_cases hjk : j = k
          · subst hjk; exact hq
          · exact HNO.out j (by omega), hbel.trans (hb1.mono hbel.size)⟩
        case measure => simp [intOf]; omega
      · go_wp2
        go_ret
        exact ⟨_, rfl, by rw [hasB_yes hlt hq]; simp, hbel.trans (hb1.mono hbel.size)⟩
    · obtain rfl : k = len := by omega
      clear hblk hCs hC hc
      go_wp2
      go_ret
      exact ⟨_, rfl, by rw [hasB_no HNO.out]; simp, hbel⟩

def HasPost (len : Nat) (S : Nat → ByteArray) (q : ByteArray) (w : World) (e : Ending) (w' : World) : Prop :=
  e = .returned (.bool (hasB len S q)) ∧ Below w.heap.size w w'

theorem containsFunc_any (r len : Nat) (S T : Nat → ByteArray) (q : ByteArray) (B : Nat) (w : World) (hlen : len ≤ 65537) (hrow : OlyRow w r len len S T) (hB : B < w.heap.size) (hc : w.cell? ⟨B, 0, none⟩ = some (.string q)) :
    Calls Try.prog 41 #[.slice (some ⟨r, 0, none⟩) len len, .func (.func 42) #[] #[.pointer (some ⟨B, 0, none⟩)]] w (HasPost len S q w) := by
  go_enter Try.func41, Try.ntmps41
  go_wp2_with fail
  refine (indexFunc_any r len S T q B _ hlen hrow hB hc).mono ?_
  rintro e w1 ⟨x, rfl, hx, hb1⟩
  have HX : Hid (decide (0 ≤ x) = hasB len S q) := hx
  clear hx
  go_wp2
  go_ret
  exact ⟨by rw [← HX.out]; rfl, hb1⟩

theorem hasCompiler_any (g len : Nat) (S : Nat → ByteArray) (q : ByteArray) (w : World) (hlen : len ≤ 65537) (ho : IsOly w g len S) :
    Calls Try.prog 35 #[.pointer (some ⟨g, 0, none⟩), .string q] w (HasPost len S q w) := by
  obtain ⟨r, C, T, h1, h2, h3⟩ := ho
  have hg := h1.lt
  have h6 := (h1.alloc (.cells #[.string q] 9)).cell 6
  rw [h2] at h6
  have hrow : OlyRow (w.alloc (.cells #[.string q] 9)) r len len S T := by
    obtain ⟨D, k1, k2⟩ := h3
    exact ⟨D, k1.alloc _, k2⟩
  clear h2
  go_enter Try.func35, Try.ntmps35
  go_wp2_with fail
  refine (containsFunc_any r len S T q w.heap.size _ hlen hrow (by simp) (by simp)).mono ?_
  rintro e w1 ⟨rfl, hb1⟩
  go_wp2
  go_ret
  exact ⟨rfl, ((Below.refl _ _).alloc (Nat.le_refl _) _).trans (hb1.mono (by simp))⟩

theorem zzHas_any (g len : Nat) (S : Nat → ByteArray) (q : ByteArray) (w : World) (hlen : len ≤ 65537) (ho : IsOly w g len S) :
    Calls Try.prog 30 #[.pointer (some ⟨g, 0, none⟩), .string q] w (HasPost len S q w) := by
  go_enter Try.func30, Try.ntmps30
  go_wp2_with fail
  refine (hasCompiler_any g len S q _ hlen ho).mono ?_
  rintro e w1 ⟨rfl, hb1⟩
  go_wp2
  go_ret
  exact ⟨rfl, hb1⟩
end Go.Proofs.Qxb6616853a
