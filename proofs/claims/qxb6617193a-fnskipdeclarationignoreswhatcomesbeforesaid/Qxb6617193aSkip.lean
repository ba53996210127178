import Derived.Test.Qxb6617193aBase
import Derived.RegionTactic
import Derived.BigRegion
namespace Go.Proofs.Qxb6617193a
open Go.RowKit

/-- A token's five cells. -/
def tokV (c : Int) : Value := .agg #[.int .i64 c, .string ByteArray.empty, .int .i64 0, .int .i64 0, .string ByteArray.empty]

/-- The tokens' row: k of them are laid. -/
def TokRow (w : World) (g n k : Nat) (K : Nat → Int) : Prop :=
  ∃ R, Blk w g R 32 ∧ R.size = n * 5 ∧ ∀ j, j < k → R[j * 5]? = some (.int .i64 (K j)) ∧ R[j * 5 + 1]? = some (.string ByteArray.empty) ∧ R[j * 5 + 2]? = some (.int .i64 0) ∧ R[j * 5 + 3]? = some (.int .i64 0) ∧ R[j * 5 + 4]? = some (.string ByteArray.empty)

/-- The parser's cells. -/
def parC (g n : Nat) (i : Int) : Array Value := #[.slice (some ⟨g, 0, none⟩) n n, .int .i64 i, .pointer none, .int .i64 0]

def TokPost (c : Int) (w : World) (e : Ending) (w' : World) : Prop := e = .returned (tokV c) ∧ Below w.heap.size w w'

set_option maxHeartbeats 1000000 in
theorem tok_any (P g n i : Nat) (K : Nat → Int) (w : World) (hi : i < n) (hP : Blk w P (parC g n i) 40) (hR : TokRow w g n n K) :
    Calls Try.prog 15 #[.pointer (some ⟨P, 0, none⟩)] w (TokPost (K i) w) := by
  obtain ⟨R, hb, _, hr⟩ := hR
  obtain ⟨r0, r1, r2, r3, r4⟩ := hr i hi
  have hgl := hb.lt
  have hPl := hP.lt
  have p0 : w.cell? ⟨P, 0, none⟩ = some (.slice (some ⟨g, 0, none⟩) n n) := hP.cell 0
  have p1 : w.cell? ⟨P, 1, none⟩ = some (.int .i64 i) := hP.cell 1
  have c0 : w.cell? ⟨g, i * 5, none⟩ = some (.int .i64 (K i)) := (hb.cell _).trans r0
  have c1 : w.cell? ⟨g, i * 5 + 1, none⟩ = some (.string ByteArray.empty) := (hb.cell _).trans r1
  have c2 : w.cell? ⟨g, i * 5 + 2, none⟩ = some (.int .i64 0) := (hb.cell _).trans r2
  have c3 : w.cell? ⟨g, i * 5 + 3, none⟩ = some (.int .i64 0) := (hb.cell _).trans r3
  have c4 : w.cell? ⟨g, i * 5 + 4, none⟩ = some (.string ByteArray.empty) := (hb.cell _).trans r4
  clear hb hr r0 r1 r2 r3 r4 hP
  go_enter Try.func15, Try.ntmps15
  go_wp2
  go_region
  go_wp2
  exact bodyPost_ret (v := tokV (K i)) (by simp [results, Try.results15, go_sem, tokV]) rfl ⟨rfl, ((Below.refl _ _).alloc (Nat.le_refl _) _).drew⟩
theorem TokRow.below {w w' : World} {B g n k : Nat} {K : Nat → Int} (h : TokRow w g n k K) (hb : Below B w w') (hB : w.heap.size ≤ B) : TokRow w' g n k K := by
  obtain ⟨R, h1, h2⟩ := h
  exact ⟨R, h1.below hb (Nat.lt_of_lt_of_le h1.lt hB), h2⟩
theorem TokRow.lt {w : World} {g n k : Nat} {K : Nat → Int} (h : TokRow w g n k K) : g < w.heap.size := by
  obtain ⟨R, h1, _⟩ := h
  exact h1.lt
theorem TokRow.set {w : World} {g n k : Nat} {K : Nat → Int} (h : TokRow w g n k K) {P : Nat} (hP : g ≠ P) (i : Nat) (v : Value) : TokRow (w.setCell ⟨P, i, none⟩ v) g n k K := by
  obtain ⟨R, h1, h2⟩ := h
  exact ⟨R, h1.other hP v, h2⟩

/-- The parser's index. -/
def idxAt (w : World) (P : Nat) : Nat := (intOf ((w.cell? ⟨P, 1, none⟩).getD (.int .i64 0))).toNat
theorem idxAt_eq {w : World} {P g n i : Nat} (h : Blk w P (parC g n i) 40) : idxAt w P = i := by
  unfold idxAt
  have : w.cell? ⟨P, 1, none⟩ = some (.int .i64 i) := h.cell 1
  rw [this]
  simp [intOf]

/-- The parser in the midst. -/
structure Par (w0 w : World) (P g n i : Nat) (K : Nat → Int) : Prop where
  par : Blk w P (parC g n i) 40
  row : TokRow w g n n K
  ne : g ≠ P
  old : w0.grownBy w (some P)

theorem Par.below {w0 w w' : World} {P g n i : Nat} {K : Nat → Int} (h : Par w0 w P g n i K) (hb : Below w.heap.size w w') : Par w0 w' P g n i K :=
  ⟨h.par.below hb h.par.lt, h.row.below hb (Nat.le_refl _), h.ne, ⟨hb.os.trans h.old.os, hb.tape.trans h.old.tape, hb.output.trans h.old.output, Nat.le_trans h.old.size hb.size, fun k hk hne => (hb.block k (Nat.lt_of_lt_of_le hk h.old.size)).trans (h.old.block k hk hne)⟩⟩

theorem Par.set {w0 w : World} {P g n i : Nat} {K : Nat → Int} (h : Par w0 w P g n i K) (i' : Int) (j : Nat) (hj : i' = j) : Par w0 (w.setCell ⟨P, 1, none⟩ (.int .i64 i')) P g n j K := by
  subst hj
  exact ⟨h.par.set 1 _, h.row.set h.ne _ _, h.ne, ⟨h.old.os, h.old.tape, h.old.output, by simpa using h.old.size, fun k hk hne => (Below.heap_setCell w ⟨P, 1, none⟩ _ k (fun e => hne (congrArg some e))).trans (h.old.block k hk hne)⟩⟩

theorem Par.tok {w0 w : World} {P g n i : Nat} {K : Nat → Int} (h : Par w0 w P g n i K) (hi : i < n) : Calls Try.prog 15 #[.pointer (some ⟨P, 0, none⟩)] w (TokPost (K i) w) :=
  tok_any P g n i K w hi h.par h.row

theorem Par.cells {w0 w : World} {P g n i : Nat} {K : Nat → Int} (h : Par w0 w P g n i K) : w.cell? ⟨P, 1, none⟩ = some (.int .i64 i) ∧ w.frozen? ⟨P, 1, none⟩ = false := ⟨h.par.cell 1, h.par.frozen 1⟩

def SkipPost (P g n r : Nat) (K : Nat → Int) (w : World) (e : Ending) (w' : World) : Prop := e = .returned (.tuple #[]) ∧ Par w w' P g n r K

theorem run_kind (c : Int) (w : World) : (Instr.field 32 (.agg #[.int .i64 c, .string ByteArray.empty, .int .i64 0, .int .i64 0, .string ByteArray.empty]) 0).run Try.prog w = .ok (.int .i64 c) w := by
  kernel_rfl

set_option maxHeartbeats 4000000 in
theorem skipDecl_any (P g n start m : Nat) (i0 : Int) (K : Nat → Int) (w : World) (hn : n ≤ 200000) (hE : EofAt K n start m) (hP : Blk w P (parC g n i0) 40) (hR : TokRow w g n n K) (hne : g ≠ P) :
    Calls Try.prog 14 #[.pointer (some ⟨P, 0, none⟩), .int .i64 start] w (SkipPost P g n (skipG K (m - start) start 0) K w) := by
  obtain ⟨hsm, hmn, hKm, hK0⟩ := hE
  have hp1 : Par w (w.setCell ⟨P, 1, none⟩ (.int .i64 start)) P g n start K := ⟨hP.set 1 _, hR.set hne _ _, hne, ⟨rfl, rfl, rfl, by simp, fun k _ hk => Below.heap_setCell w ⟨P, 1, none⟩ _ k (fun e => hk (congrArg some e))⟩⟩
  have q1 : w.cell? ⟨P, 1, none⟩ = some (.int .i64 i0) := hP.cell 1
  have q2 := hP.frozen 1
  have HK : Hid (K m = 0) := hKm
  have HK0 : Hid _ := hK0
  clear hP hR hKm hK0
  have hfd := run_kind
  go_enter Try.func14, Try.ntmps14
  go_wp2
  go_loopw [4] (fun v wr => ∃ k d : Nat, start ≤ k ∧ k ≤ m ∧ d ≤ k ∧ v = .int .i64 d ∧ Par w wr P g n k K ∧ skipG K (m - k) k d = skipG K (m - start) start 0) (fun _ wr => m - idxAt wr P)
  case atStart => exact ⟨start, 0, Nat.le_refl _, hsm, by omega, rfl, hp1, rfl⟩
  case round =>
    obtain ⟨k, d, hk0, hk, hd, rfl, hp, hr⟩ := hrel
    clear hp1 q1 q2
    have HR : Hid (skipG K (m - k) k d = skipG K (m - start) start 0) := hr
    have hix := idxAt_eq hp.par
    have HIX : Hid (idxAt wr P = k) := hix
    clear hr hix
    have ht1 := hp.tok (by omega)
    unfold tokV at ht1
    by_cases hlt : k < m
    · have hc0 := HK0.out k hk0 hlt
      have hmk : m - k = (m - (k + 1)) + 1 := by omega
      have HMK : Hid _ := hmk
      clear hmk
      obtain ⟨c, hcK⟩ : ∃ c, c = K k := ⟨_, rfl⟩
      rw [← hcK] at hc0 ht1
      have HC : Hid (c = K k) := hcK
      clear hcK
      have hq0 : (c != 0) = true := by simpa using hc0
      go_wp2_with fail
      refine ht1.mono ?_
      rintro e w1 ⟨rfl, hb1⟩
      have hpa := hp.below hb1
      have ht2 := hpa.tok (by omega)
      rw [← HC.out] at ht2
      clear ht1 hp hb1
      unfold tokV
      go_wp2_with fail
      refine ht2.mono ?_
      rintro e w2 ⟨rfl, hb2⟩
      have hpb := hpa.below hb2
      obtain ⟨q1, q2⟩ := hpb.cells
      have HNX : Hid _ := hpb.set ((k : Int) + 1) (k + 1) (by omega)
      clear ht2 hpa hb2 hpb
      unfold tokV
      by_cases hs : c = 4 ∧ d = 0
      · obtain ⟨rfl, rfl⟩ := hs
        go_wp2
        refine bodyPost_ret (results_none rfl _ _ _) rfl ?_
        refine ⟨rfl, ?_⟩
        rw [← HR.out, HMK.out, skipG_stop HC.out.symm rfl]
        exact HNX.out
      · have HS : Hid _ := skipG_go (K := K) (f := m - (k + 1)) (i := k) (d := d) (fun h => hs ⟨HC.out.trans h.1, h.2⟩)
        have hfin : ∀ d', stepD c d = d' → skipG K (m - (k + 1)) (k + 1) d' = skipG K (m - start) start 0 := fun d' e1 => by
          have h1 := HR.out
          rw [HMK.out, HS.out, ← HC.out, e1] at h1
          exact h1
        have HF : Hid _ := hfin
        clear hfin HS hc0
        by_cases h12 : c = 12 ∨ c = 14
        · have HP : Hid _ := HF.out (d + 1) (by unfold stepD; rw [if_pos h12])
          clear hs
          rcases h12 with h12 | h12
          all_goals
            subst h12
            go_wp2
            go_roundw
            case rel => exact ⟨k + 1, d + 1, by omega, by omega, by omega, by first | rfl | go_num, HNX.out, HP.out⟩
            case measure => rw [idxAt_eq HNX.out.par, HIX.out]; omega
        · by_cases h13 : c = 13 ∨ c = 15
          · have HP : Hid _ := HF.out (d - 1) (by unfold stepD; rw [if_neg h12, if_pos h13])
            clear hs
            by_cases hd0 : d = 0
            · subst hd0
              rcases h13 with h13 | h13
              all_goals
                subst h13
                clear h12
                go_wp2
                go_roundw
                case rel => exact ⟨k + 1, 0 - 1, by omega, by omega, by omega, by first | rfl | go_num, HNX.out, HP.out⟩
                case measure => rw [idxAt_eq HNX.out.par, HIX.out]; omega
            · have hd1 : 0 < d := by omega
              clear hd0
              rcases h13 with h13 | h13
              all_goals
                subst h13
                clear h12
                go_wp2
                go_roundw
                case rel => exact ⟨k + 1, d - 1, by omega, by omega, by omega, by first | rfl | go_num, HNX.out, HP.out⟩
                case measure => rw [idxAt_eq HNX.out.par, HIX.out]; omega
          · have HP : Hid _ := HF.out d (by unfold stepD; rw [if_neg h12, if_neg h13])
            have q12 : (c == 12) = false := by simp; omega
            have q14 : (c == 14) = false := by simp; omega
            have q13 : (c == 13) = false := by simp; omega
            have q15 : (c == 15) = false := by simp; omega
            by_cases h4 : c = 4
            · have hd0 : ((d : Int) == 0) = false := by simp; omega
              subst h4
              clear h12 h13 hs
              go_wp2
              go_roundw
              case rel => exact ⟨k + 1, d, by omega, by omega, by omega, by first | rfl | go_num, HNX.out, HP.out⟩
              case measure => rw [idxAt_eq HNX.out.par, HIX.out]; omega
            · have q4 : (c == 4) = false := by simp [h4]
              clear h12 h13 hs h4
              go_wp2
              go_roundw
              case rel => exact ⟨k + 1, d, by omega, by omega, by omega, by first | rfl | go_num, HNX.out, HP.out⟩
              case measure => rw [idxAt_eq HNX.out.par, HIX.out]; omega
    · obtain rfl : k = m := by omega
      go_wp2_with fail
      refine ht1.mono ?_
      rintro e w1 ⟨rfl, hb1⟩
      rw [HK.out]
      have HF : Hid _ := hp.below hb1
      clear ht1 hp hb1
      unfold tokV
      go_wp2
      go_end0
      refine ⟨rfl, ?_⟩
      rw [← HR.out, Nat.sub_self]
      exact HF.out
end Go.Proofs.Qxb6617193a
