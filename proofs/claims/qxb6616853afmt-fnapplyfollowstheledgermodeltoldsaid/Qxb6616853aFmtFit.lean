import Derived.Test.Qxb6616853aFmtMpre
namespace Go.Proofs.Qxb6616853aFmt
open Go.RowKit
attribute [local go_sem ↓] Go.wp_at_zero Go.wp_at_succ

/-- What an event of the input is: its cells, its byte slices. -/
structure EvAt (w : World) (b o : Nat) (e : PEv) (vt vn vm vb : Value) : Prop where
  lt : b < w.heap.size
  cell : ∀ q, q < 17 → w.cell? ⟨b, o + q, none⟩ = (evA e vt vn vm vb)[q]?
  ok : e.Ok
  by_ : IsBytes w vt e.tid
  low : ∀ g a l c, l ≠ 0 → vt = .slice (some ⟨g, a, none⟩) l c → g < w.heap.size
  fn : ∃ a l c, vn = .slice a l c
  fm : ∃ a l c, vm = .slice a l c
  fb : ∃ a l c, vb = .slice a l c

/-- The slice of events. -/
def IsEvs (w : World) (a : Option Addr) (len cap : Nat) (E : Nat → PEv) (V : Nat → Nat → Value) : Prop :=
  len ≤ cap ∧ cap ≤ maxLen ∧ ∀ i, i < len → ∃ b off, a = some ⟨b, off, none⟩ ∧ EvAt w b (off + i * 17) (E i) (V i 0) (V i 1) (V i 2) (V i 3)

theorem IsBytes.below' {w w' : World} {v : Value} {s : ByteArray} (h : IsBytes w v s) (hb : Below w.heap.size w w') : IsBytes w' v s := h.below hb (Nat.le_refl _)

theorem EvAt.below {w w' : World} {b o : Nat} {e : PEv} {vt vn vm vb : Value} (h : EvAt w b o e vt vn vm vb) (hb : Below w.heap.size w w') : EvAt w' b o e vt vn vm vb where
  lt := Nat.lt_of_lt_of_le h.lt hb.size
  cell := fun q hq => (hb.cell (p := ⟨b, o + q, none⟩) h.lt).trans (h.cell q hq)
  ok := h.ok
  by_ := h.by_.below' hb
  low := fun g a l c hl hv => Nat.lt_of_lt_of_le (h.low g a l c hl hv) hb.size
  fn := h.fn
  fm := h.fm
  fb := h.fb

def SomeBool (w : World) (e : Ending) (w' : World) : Prop := ∃ b : Bool, e = .returned (.bool b) ∧ w' = w
def SomePair (w : World) (e : Ending) (w' : World) : Prop := ∃ (m : Int) (b : Bool), e = .returned (.tuple #[.int .i64 m, .bool b]) ∧ w' = w

def AddsPost (w : World) (e : Ending) (w' : World) : Prop := ∃ (m : Int) (b : Bool), e = .returned (.tuple #[.int .i64 m, .bool b]) ∧ (b = true → 0 ≤ m ∧ m ≤ 1048576) ∧ w' = w
theorem zzAdd_any (n k : Int) (w : World) : Calls Tryf.prog 11 #[.int .i64 n, .int .i64 k] w (AddsPost w) := by
  by_cases h1 : n < 0
  · go_enter Tryf.func11, Tryf.ntmps11
    go_wp2
    go_ret2
    exact ⟨_, false, rfl, by simp, rfl⟩
  · by_cases h2 : 1048576 < n
    · go_enter Tryf.func11, Tryf.ntmps11
      go_wp2
      go_ret2
      exact ⟨_, false, rfl, by simp, rfl⟩
    · by_cases h3 : k < 0
      · go_enter Tryf.func11, Tryf.ntmps11
        go_wp2
        go_ret2
        exact ⟨_, false, rfl, by simp, rfl⟩
      · by_cases h4 : 1048576 - n < k
        · go_enter Tryf.func11, Tryf.ntmps11
          go_wp2
          go_ret2
          exact ⟨_, false, rfl, by simp, rfl⟩
        · go_enter Tryf.func11, Tryf.ntmps11
          go_wp2
          go_ret2
          exact ⟨_, true, rfl, fun _ => by omega, rfl⟩

/-- The lengths that the two bounds read. -/
theorem EvAt.lens {w : World} {b o : Nat} {e : PEv} {vt vn vm vb : Value} (h : EvAt w b o e vt vn vm vb) :
    w.cell? ⟨b, o + 1, none⟩ = some (.string e.oly) ∧ w.cell? ⟨b, o + 3, none⟩ = some (.string e.team) ∧ w.cell? ⟨b, o + 6, none⟩ = some (.string e.comp) ∧
    (∃ a l c, w.cell? ⟨b, o + 4, none⟩ = some (.slice a l c)) ∧ (∃ a l c, w.cell? ⟨b, o + 10, none⟩ = some (.slice a l c)) ∧ (∃ a l c, w.cell? ⟨b, o + 11, none⟩ = some (.slice a l c)) ∧ (∃ a l c, w.cell? ⟨b, o + 14, none⟩ = some (.slice a l c)) := by
  refine ⟨h.cell 1 (by omega), h.cell 3 (by omega), h.cell 6 (by omega), ?_, ?_, ?_, ?_⟩
  · obtain ⟨a, l, c, hv⟩ := h.by_.form
    exact ⟨a, l, c, by rw [← hv]; exact h.cell 4 (by omega)⟩
  · obtain ⟨a, l, c, hv⟩ := h.fn
    exact ⟨a, l, c, by rw [← hv]; exact h.cell 10 (by omega)⟩
  · obtain ⟨a, l, c, hv⟩ := h.fm
    exact ⟨a, l, c, by rw [← hv]; exact h.cell 11 (by omega)⟩
  · obtain ⟨a, l, c, hv⟩ := h.fb
    exact ⟨a, l, c, by rw [← hv]; exact h.cell 14 (by omega)⟩

set_option maxHeartbeats 8000000 in
set_option maxRecDepth 20000 in
theorem zzBytes_any (w : World) (a : Option Addr) (len cap : Nat) (E : Nat → PEv) (V : Nat → Nat → Value) (h : IsEvs w a len cap E V) : Calls Tryf.prog 4 #[.slice a len cap] w (SomeBool w) := by
  obtain ⟨h1, h2, h3⟩ := h
  have hm : len ≤ 9223372036854775807 := by unfold maxLen at h2; omega
  clear h1 h2
  by_cases hl : len ≤ 1048576
  · go_enter Tryf.func4, Tryf.ntmps4
    go_wp2
    go_loop [3, 4] (fun z i => ∃ (k : Nat) (q : Int), k ≤ len ∧ i = .int .i64 k ∧ z = .int .i64 q ∧ 0 ≤ q ∧ q ≤ 1048576) (fun _ i => len - (intOf i).toNat)
    case atStart => exact ⟨0, len, Nat.zero_le _, rfl, by go_num, by omega, by omega⟩
    case round =>
      obtain ⟨k, q, hk, rfl, rfl, hq0, hq1⟩ := hrel
      by_cases hlt : k < len
      · obtain ⟨b, off, rfl, hev⟩ := h3 k hlt
        obtain ⟨c1, c3, c6, ⟨a4, l4, k4, c4⟩, ⟨a10, l10, k10, c10⟩, ⟨a11, l11, k11, c11⟩, ⟨a14, l14, k14, c14⟩⟩ := hev.lens
        generalize (E k).oly = s1 at c1
        generalize (E k).team = s3 at c3
        generalize (E k).comp = s6 at c6
        clear hev h3
        go_wp2
        all_goals (try (go_ret; exact ⟨_, rfl, rfl⟩))
        go_round
        case rel => exact ⟨k + 1, _, by omega, by go_num, by go_num, by omega, by omega⟩
        case measure => simp [intOf]; omega
      · obtain rfl : k = len := by omega
        clear hlt hk h3
        go_wp2
        go_ret
        exact ⟨_, rfl, rfl⟩
  · clear h3
    go_enter Tryf.func4, Tryf.ntmps4
    go_wp2
    go_ret
    exact ⟨_, rfl, rfl⟩
set_option maxHeartbeats 8000000 in
set_option maxRecDepth 20000 in
theorem zzFit_any (w : World) (a : Option Addr) (len cap : Nat) (E : Nat → PEv) (V : Nat → Nat → Value) (h : IsEvs w a len cap E V) (hl : len ≤ 4096) : Calls Tryf.prog 5 #[.int .i64 0, .slice a len cap] w (SomePair w) := by
  obtain ⟨_, _, h3⟩ := h
  go_enter Tryf.func5, Tryf.ntmps5
  go_wp2_with fail
  refine (zzAdd_any _ _ _).mono ?_
  rintro e0 w0 ⟨m0, b0, rfl, hb0, rfl⟩
  go_wp2
  go_loop [6, 7, 8] (fun z o i => ∃ (k : Nat) (q : Int) (b : Bool), k ≤ len ∧ i = .int .i64 k ∧ z = .int .i64 q ∧ o = .bool b) (fun _ _ i => len - (intOf i).toNat)
  case atStart => exact ⟨0, m0, b0, Nat.zero_le _, rfl, rfl, rfl⟩
  case round =>
    obtain ⟨k, q, b, hk, rfl, rfl, rfl⟩ := hrel
    by_cases hlt : k < len
    · cases b
      · clear h3
        go_wp2
        go_ret2
        exact ⟨_, _, rfl, rfl⟩
      · obtain ⟨bk, off, rfl, hev⟩ := h3 k hlt
        obtain ⟨c1, c3, c6, ⟨a4, l4, k4, c4⟩, ⟨a10, l10, k10, c10⟩, ⟨a11, l11, k11, c11⟩, ⟨a14, l14, k14, c14⟩⟩ := hev.lens
        generalize (E k).oly = s1 at c1
        generalize (E k).team = s3 at c3
        generalize (E k).comp = s6 at c6
        clear hev h3
        go_wp2_with (go_at_call 11; refine (zzAdd_any _ _ _).mono ?_; rintro e1 w1 ⟨m1, b1, rfl, _, rfl⟩; cases b1)
        all_goals go_round
        all_goals first
          | exact ⟨k + 1, _, _, by omega, by go_num, rfl, rfl⟩
          | (simp [intOf]; omega)
    · obtain rfl : k = len := by omega
      clear hlt hk h3
      go_wp2
      go_ret2
      exact ⟨_, _, rfl, rfl⟩
end Go.Proofs.Qxb6616853aFmt
