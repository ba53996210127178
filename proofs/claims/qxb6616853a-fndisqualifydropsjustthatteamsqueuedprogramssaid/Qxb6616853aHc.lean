import Derived.Test.Qxb6616853aBase
import Derived.Test.Qxb6616853aMem
import Derived.RegionTactic
import Derived.BigRegion
namespace Go.Proofs.Qxb6616853a
open Go.RowKit

set_option maxHeartbeats 1000000 in
theorem compilersFit_any (a0 : Option Addr) (len0 cap0 : Nat) (S0 : Nat → ByteArray) (a1 : Option Addr) (len1 cap1 : Nat) (S1 : Nat → ByteArray) (n : Int) (w : World)
    (hs0 : IsStrs w a0 len0 cap0 S0) (hs1 : IsStrs w a1 len1 cap1 S1) (h0 : 0 ≤ n) (h1 : n ≤ 1048576) :
    Calls Try.prog 28 #[.slice a0 len0 cap0, .slice a1 len1 cap1, .int .i64 n] w (BoolPost w) := by
  go_enter Try.func28, Try.ntmps28
  go_wp2_with fail
  refine (zzStringsFit_any _ _ _ _ _ _ hs0 h0 h1).mono ?_
  rintro e w' ⟨m, ok, rfl, rfl, hm0, hm1⟩
  cases ok
  · go_wp2
    go_ret
    exact ⟨_, rfl, rfl⟩
  · go_wp2_with fail
    refine (zzStringsFit_any _ _ _ _ _ _ hs1 hm0 hm1).mono ?_
    rintro e w' ⟨m, ok, rfl, rfl, hm0, hm1⟩
    go_wp2
    go_ret
    exact ⟨_, rfl, rfl⟩

theorem info73 : (Try.prog.info? 73).map (fun i => (i.zero, i.size, i.bytes)) = some (some (.agg #[.string ByteArray.empty, .string ByteArray.empty]), 2, 32) := by kernel_rfl

/-- The compilers' row: 'k' of them are laid. -/
def OlyRow (w : World) (r len k : Nat) (S T : Nat → ByteArray) : Prop :=
  ∃ C, Blk w r C 73 ∧ C.size = len * 2 ∧ ∀ i, i < k → C[i * 2]? = some (.string (S i)) ∧ C[i * 2 + 1]? = some (.string (T i))

/-- What a loaded olympiad is to its reader: at field 6 a slice of 'len' compilers, the i-th called 'S i'. -/
def IsOly (w : World) (g : Nat) (len : Nat) (S : Nat → ByteArray) : Prop :=
  ∃ r C T, Blk w g C 78 ∧ C[6]? = some (.slice (some ⟨r, 0, none⟩) len len) ∧ OlyRow w r len len S T

theorem IsOly.below {w w' : World} {B g len : Nat} {S : Nat → ByteArray} (h : IsOly w g len S) (hb : Below B w w') (hB : w.heap.size ≤ B) : IsOly w' g len S := by
  obtain ⟨r, C, T, h1, h2, D, h3, h4⟩ := h
  exact ⟨r, C, T, h1.below hb (Nat.lt_of_lt_of_le h1.lt hB), h2, D, h3.below hb (Nat.lt_of_lt_of_le h3.lt hB), h4⟩

def OlyPost (w : World) (len : Nat) (S : Nat → ByteArray) (e : Ending) (w' : World) : Prop :=
  ∃ g, e = .returned (.pointer (some ⟨g, 0, none⟩)) ∧ IsOly w' g len S ∧ Below w.heap.size w w'

theorem OlyRow.step {w : World} {r len k : Nat} {S T : Nat → ByteArray} (h : OlyRow w r len k S T) (hk : k < len) :
    OlyRow ((w.setCell ⟨r, k * 2, none⟩ (.string (S k))).setCell ⟨r, k * 2 + 1, none⟩ (.string (T k))) r len (k + 1) S T := by
  obtain ⟨C, h1, h2, h3⟩ := h
  refine ⟨_, (h1.set (k * 2) _).set (k * 2 + 1) _, by simpa using h2, fun i hi => ?_⟩
  by_cases hik : i = k
  · subst hik
    constructor
    · rw [Array.getElem?_setIfInBounds_ne (by omega), Array.getElem?_setIfInBounds_self_of_lt (by omega)]
    · rw [Array.getElem?_setIfInBounds_self_of_lt (by simp; omega)]
  · have := h3 i (by omega)
    constructor
    · rw [Array.getElem?_setIfInBounds_ne (by omega), Array.getElem?_setIfInBounds_ne (by omega)]; exact this.1
    · rw [Array.getElem?_setIfInBounds_ne (by omega), Array.getElem?_setIfInBounds_ne (by omega)]; exact this.2

set_option maxHeartbeats 1000000 in
theorem newOly_any (a0 : Option Addr) (len cap0 : Nat) (S0 : Nat → ByteArray) (a1 : Option Addr) (cap1 : Nat) (S1 : Nat → ByteArray) (w : World)
    (hs0 : IsStrs w a0 len cap0 S0) (hs1 : IsStrs w a1 len cap1 S1) (hlen : len ≤ 65537) :
    Calls Try.prog 29 #[.slice a0 len cap0, .slice a1 len cap1] w (OlyPost w len S0) := by
  obtain ⟨hl0, hm0, hsz0, _, hc0⟩ := hs0
  obtain ⟨hl1, hm1, hsz1, _, hc1⟩ := hs1
  unfold maxLen at *
  obtain ⟨i0, hi, hz0, hz1, hz2⟩ := info_parts info73
  have hmk : ∀ w, (Instr.makeSlice 71 (.int .i64 (len : Int)) (.int .i64 (len : Int))).run Try.prog w = .ok (.slice (some ⟨w.heap.size, 0, none⟩) len len) (w.alloc (.cells (madeCells (Value.agg #[.string ByteArray.empty, .string ByteArray.empty]).cells (len * 2)) 73)) := by
    intro w
    have := run_make w 71 73 i0 _ Try.underlying71 hi hz0 .i64 .i64 (len : Int) (len : Int) (by omega) (by omega) (by rw [hz2]; omega) (by omega)
    rw [hz1] at this
    simpa using this
  clear hi hz0 hz1 hz2
  go_enter Try.func29, Try.ntmps29
  go_wp2
  go_loopw [12] (fun i wr => ∃ k : Nat, k ≤ len ∧ i = .int .i64 k ∧ OlyRow wr w.heap.size len k S0 S1 ∧ Below w.heap.size w wr) (fun i _ => len - (intOf i).toNat)
  case atStart =>
    exact ⟨0, Nat.zero_le _, rfl, ⟨_, Blk.new _ _ _, size_madeCells _ _, fun i hi => absurd hi (Nat.not_lt_zero _)⟩, (Below.refl _ _).alloc (Nat.le_refl _) _⟩
  case round =>
    obtain ⟨k, hk, rfl, hrow, hbel⟩ := hrel
    by_cases hlt : k < len
    · have hnext := hrow.step hlt
      obtain ⟨C, hblk, hCs, hCd⟩ := hrow
      obtain ⟨b0, o0, rfl, hb0, hc0k⟩ := hc0 k hlt
      obtain ⟨b1, o1, rfl, hb1, hc1k⟩ := hc1 k hlt
      have d0 : wr.cell? ⟨b0, o0 + k, none⟩ = some (.string (S0 k)) := (hbel.cell (p := ⟨b0, o0 + k, none⟩) hb0).trans hc0k
      have d1 : wr.cell? ⟨b1, o1 + k, none⟩ = some (.string (S1 k)) := (hbel.cell (p := ⟨b1, o1 + k, none⟩) hb1).trans hc1k
      have e0 : wr.cell? ⟨w.heap.size, k * 2, none⟩ = some C[k * 2] := by rw [hblk.cell]; simp
      have e1 : wr.cell? ⟨w.heap.size, k * 2 + 1, none⟩ = some C[k * 2 + 1] := by rw [hblk.cell]; simp
      have f0 := hblk.frozen (k * 2)
      have f1 := hblk.frozen (k * 2 + 1)
      generalize C[k * 2] = v0 at e0
      generalize C[k * 2 + 1] = v1 at e1
      clear hc0 hc1 hc0k hc1k hsz0 hsz1 hmk hCd hblk hCs C
      go_wp2
      go_region
      go_wp2
      go_roundw
      case rel => exact ⟨k + 1, by omega, by go_num, hnext, ((hbel.setCell (Nat.le_refl _) _).setCell (Nat.le_refl _) _).drew⟩
      case measure => simp [intOf]; omega
    · clear hc0 hc1 hsz0 hsz1 hmk
      obtain rfl : k = len := by omega
      go_wp2
      go_ret
      exact ⟨_, rfl, ⟨_, _, _, Blk.new _ _ _, rfl, by
        obtain ⟨C, h1, h2, h3⟩ := hrow
        exact ⟨C, h1.alloc _, h2, h3⟩⟩, hbel.alloc (by have := hbel.size; omega) _⟩
end Go.Proofs.Qxb6616853a
