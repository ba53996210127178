import Derived.Test.Qxb6617193aSkip
namespace Go.Proofs.Qxb6617193a
open Go.RowKit

theorem info32 : (Try.prog.info? 32).map (fun i => (i.zero, i.size, i.bytes)) = some (some (.agg #[.int .i64 0, .string ByteArray.empty, .int .i64 0, .int .i64 0, .string ByteArray.empty]), 5, 56) := by kernel_rfl
theorem info3 : (Try.prog.info? 3).map (fun i => (i.zero, i.size, i.bytes)) = some (some (.int .i64 0), 1, 8) := by kernel_rfl

theorem makeTok_any (c : Int) (w : World) : Calls Try.prog 10 #[.int .i64 c, .string ByteArray.empty, .int .i64 0, .int .i64 0, .string ByteArray.empty] w (TokPost c w) := by
  go_enter Try.func10, Try.ntmps10
  go_wp2
  exact bodyPost_ret (v := tokV c) (by simp [results, Try.results10, go_sem, tokV]) rfl ⟨rfl, (Below.refl _ _).alloc (Nat.le_refl _) _⟩

theorem TokRow.step {w : World} {g n k : Nat} {K : Nat → Int} (h : TokRow w g n k K) (hk : k < n) :
    TokRow (((((w.setCell ⟨g, k * 5, none⟩ (.int .i64 (K k))).setCell ⟨g, k * 5 + 1, none⟩ (.string ByteArray.empty)).setCell ⟨g, k * 5 + 2, none⟩ (.int .i64 0)).setCell ⟨g, k * 5 + 3, none⟩ (.int .i64 0)).setCell ⟨g, k * 5 + 4, none⟩ (.string ByteArray.empty)) g n (k + 1) K := by
  obtain ⟨R, h1, h2, h3⟩ := h
  refine ⟨_, ((((h1.set _ _).set _ _).set _ _).set _ _).set _ _, by simpa using h2, fun j hj => ?_⟩
  have hne : ∀ a b (X : Array Value) (v : Value), a ≠ b → (X.setIfInBounds a v)[b]? = X[b]? := fun a b X v hab => Array.getElem?_setIfInBounds_ne hab
  have hse : ∀ a (X : Array Value) (v : Value), a < X.size → (X.setIfInBounds a v)[a]? = some v := fun a X v ha => Array.getElem?_setIfInBounds_self_of_lt ha
  by_cases hjk : j = k
  · subst hjk
    refine ⟨?_, ?_, ?_, ?_, ?_⟩
    · rw [hne _ _ _ _ (by omega), hne _ _ _ _ (by omega), hne _ _ _ _ (by omega), hne _ _ _ _ (by omega), hse _ _ _ (by omega)]
    · rw [hne _ _ _ _ (by omega), hne _ _ _ _ (by omega), hne _ _ _ _ (by omega), hse _ _ _ (by simp; omega)]
    · rw [hne _ _ _ _ (by omega), hne _ _ _ _ (by omega), hse _ _ _ (by simp; omega)]
    · rw [hne _ _ _ _ (by omega), hse _ _ _ (by simp; omega)]
    · rw [hse _ _ _ (by simp; omega)]
  · obtain ⟨a0, a1, a2, a3, a4⟩ := h3 j (by omega)
    refine ⟨?_, ?_, ?_, ?_, ?_⟩
    all_goals rw [hne _ _ _ _ (by omega), hne _ _ _ _ (by omega), hne _ _ _ _ (by omega), hne _ _ _ _ (by omega), hne _ _ _ _ (by omega)]
    · exact a0
    · exact a1
    · exact a2
    · exact a3
    · exact a4

def NewPost (g n : Nat) (i0 : Int) (w : World) (e : Ending) (w' : World) : Prop := e = .returned (.pointer (some ⟨w.heap.size, 0, none⟩)) ∧ Blk w' w.heap.size (parC g n i0) 40 ∧ Below w.heap.size w w'

theorem newPar_any (g n : Nat) (i0 : Int) (w : World) : Calls Try.prog 11 #[.slice (some ⟨g, 0, none⟩) n n, .int .i64 i0] w (NewPost g n i0 w) := by
  go_enter Try.func11, Try.ntmps11
  go_wp2
  go_ret
  exact ⟨rfl, Blk.new _ _ _, (Below.refl _ _).alloc (Nat.le_refl _) _⟩

theorem zzSkip_any (P g n start m : Nat) (i0 : Int) (K : Nat → Int) (w : World) (hn : n ≤ 200000) (hE : EofAt K n start m) (hP : Blk w P (parC g n i0) 40) (hR : TokRow w g n n K) (hne : g ≠ P) :
    Calls Try.prog 12 #[.pointer (some ⟨P, 0, none⟩), .int .i64 start] w (SkipPost P g n (skipG K (m - start) start 0) K w) := by
  go_enter Try.func12, Try.ntmps12
  go_wp2_with fail
  refine (skipDecl_any P g n start m i0 K w hn hE hP hR hne).mono ?_
  rintro e w1 ⟨rfl, hp⟩
  go_wp2
  go_end0
  exact ⟨rfl, hp⟩

theorem zzIndex_any (P g n i : Nat) (w : World) (hP : Blk w P (parC g n i) 40) : Calls Try.prog 13 #[.pointer (some ⟨P, 0, none⟩)] w fun e w' => e = .returned (.int .i64 i) ∧ w' = w := by
  have q1 : w.cell? ⟨P, 1, none⟩ = some (.int .i64 i) := hP.cell 1
  clear hP
  go_enter Try.func13, Try.ntmps13
  go_wp2
  go_ret
  exact ⟨rfl, rfl⟩

def OnPost (r : Nat) (w : World) (e : Ending) (w' : World) : Prop := e = .returned (.int .i64 r) ∧ Below w.heap.size w w'

set_option maxHeartbeats 4000000 in
theorem skipOn_any (a : Option Addr) (len cap start m : Nat) (i0 : Int) (K : Nat → Int) (w : World) (h : IsInts w a len cap K) (hl : len ≤ 200000) (hE : EofAt K len start m) :
    Calls Try.prog 7 #[.slice a len cap, .int .i64 start, .int .i64 i0] w (OnPost (skipG K (m - start) start 0) w) := by
  obtain ⟨hl0, hm0, hc0⟩ := h
  unfold maxLen at hm0
  obtain ⟨ii, hi, hz0, hz1, hz2⟩ := info_parts info32
  have hmk : ∀ w, (Instr.makeSlice 27 (.int .i64 (len : Int)) (.int .i64 (len : Int))).run Try.prog w = .ok (.slice (some ⟨w.heap.size, 0, none⟩) len len) (w.alloc (.cells (madeCells (Value.agg #[.int .i64 0, .string ByteArray.empty, .int .i64 0, .int .i64 0, .string ByteArray.empty]).cells (len * 5)) 32)) := by
    intro w
    have := run_make w 27 32 ii _ Try.underlying27 hi hz0 .i64 .i64 (len : Int) (len : Int) (by omega) (by omega) (by rw [hz2]; omega) (by omega)
    rw [hz1] at this
    simpa using this
  clear hi hz0 hz1 hz2
  go_enter Try.func7, Try.ntmps7
  go_wp2
  go_loopw [8] (fun i wr => ∃ k : Nat, k ≤ len ∧ i = .int .i64 k ∧ TokRow wr w.heap.size len k K ∧ Below w.heap.size w wr) (fun i _ => len - (intOf i).toNat)
  case atStart =>
    exact ⟨0, Nat.zero_le _, rfl, ⟨_, Blk.new _ _ _, size_madeCells _ _, fun i hi => absurd hi (Nat.not_lt_zero _)⟩, (Below.refl _ _).alloc (Nat.le_refl _) _⟩
  case round =>
    obtain ⟨k, hk, rfl, hrow, hbel⟩ := hrel
    by_cases hlt : k < len
    · obtain ⟨b0, o0, rfl, hb0, hc0k⟩ := hc0 k hlt
      have d0 : wr.cell? ⟨b0, o0 + k, none⟩ = some (.int .i64 (K k)) := (hbel.cell (p := ⟨b0, o0 + k, none⟩) hb0).trans hc0k
      clear hc0 hc0k hmk
      go_wp2_with fail
      refine (makeTok_any (K k) _).mono ?_
      rintro e w1 ⟨rfl, hb1⟩
      have hrow1 := hrow.below hb1 (Nat.le_refl _)
      have hbel1 := hbel.trans (hb1.mono hbel.size)
      have HNX : Hid _ := hrow1.step hlt
      obtain ⟨R, hblk, hRs, hRd⟩ := hrow1
      have e0 : w1.cell? ⟨w.heap.size, k * 5, none⟩ = some R[k * 5] := by rw [hblk.cell]; simp
      have e1 : w1.cell? ⟨w.heap.size, k * 5 + 1, none⟩ = some R[k * 5 + 1] := by rw [hblk.cell]; simp
      have e2 : w1.cell? ⟨w.heap.size, k * 5 + 2, none⟩ = some R[k * 5 + 2] := by rw [hblk.cell]; simp
      have e3 : w1.cell? ⟨w.heap.size, k * 5 + 3, none⟩ = some R[k * 5 + 3] := by rw [hblk.cell]; simp
      have e4 : w1.cell? ⟨w.heap.size, k * 5 + 4, none⟩ = some R[k * 5 + 4] := by rw [hblk.cell]; simp
      have f0 := hblk.frozen (k * 5)
      have f1 := hblk.frozen (k * 5 + 1)
      have f2 := hblk.frozen (k * 5 + 2)
      have f3 := hblk.frozen (k * 5 + 3)
      have f4 := hblk.frozen (k * 5 + 4)
      generalize R[k * 5] = v0 at e0
      generalize R[k * 5 + 1] = v1 at e1
      generalize R[k * 5 + 2] = v2 at e2
      generalize R[k * 5 + 3] = v3 at e3
      generalize R[k * 5 + 4] = v4 at e4
      clear hRd hblk hRs R hrow hb1
      unfold tokV
      go_wp2
      go_roundw
      case rel => exact ⟨k + 1, by omega, by go_num, HNX.out, ((((hbel1.setCell (Nat.le_refl _) _).setCell (Nat.le_refl _) _).setCell (Nat.le_refl _) _).setCell (Nat.le_refl _) _).setCell (Nat.le_refl _) _⟩
      case measure => simp [intOf]; omega
    · obtain rfl : k = len := by omega
      clear hc0 hmk
      go_wp2_with fail
      refine (newPar_any w.heap.size k i0 _).mono ?_
      rintro e w1 ⟨rfl, hP1, hb1⟩
      have hrow1 := hrow.below hb1 (Nat.le_refl _)
      have hgl := hrow.lt
      have hbel1 := hbel.trans (hb1.mono hbel.size)
      have hsz := hbel.size
      have hsk := zzSkip_any wr.heap.size w.heap.size k start m i0 K w1 hl hE hP1 hrow1 (by omega)
      clear hrow hrow1 hb1 hP1
      go_wp2_with fail
      refine hsk.mono ?_
      rintro e w2 ⟨rfl, hp⟩
      have hix := zzIndex_any _ _ _ _ _ hp.par
      have HB : Hid (Below w.heap.size w w2) := hbel1.grown hp.old hbel1.size (by rintro x ⟨⟩; omega)
      clear hsk hp hbel hbel1
      go_wp2_with fail
      refine hix.mono ?_
      rintro e w3 ⟨rfl, hw⟩
      obtain rfl := hw
      clear hix
      go_wp2
      go_ret
      exact ⟨rfl, HB.out⟩
end Go.Proofs.Qxb6617193a
