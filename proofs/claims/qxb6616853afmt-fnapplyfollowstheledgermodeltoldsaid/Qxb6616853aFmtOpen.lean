import Derived.Test.Qxb6616853aFmtCards
import Derived.Test.Qxb6616853aFmtFit
import Derived.ProofKit
import Derived.OpenShut
import Derived.ShutString
import Derived.ChangeOld
import Derived.SliceStrings
namespace Go.Proofs.Qxb6616853aFmt
open Go.ChangeShapes Go.WideShapes Go.ChangeAt Go.RowKit
open Go.ChangeMaps (open_string shut_string)

section
variable {H : Type} {enc : TypeId × Value → H} {W : World} {spare : Nat → Bool} {held : Bool} {base : Nat}

theorem wide3 : Tryf.prog.cellsOf 3 = 1 := by kernel_rfl
theorem wide9 : Tryf.prog.cellsOf 9 = 1 := by kernel_rfl
theorem wide2 : Tryf.prog.cellsOf 2 = 1 := by kernel_rfl
theorem wide30 : Tryf.prog.cellsOf 30 = 1 := by kernel_rfl
theorem wide4 : Tryf.prog.cellsOf 4 = 1 := by kernel_rfl

theorem spot_none {w : World} {a : Addr} {v : Value} (h : w.cell? a = some v) : a.spot = none := World.cell?_spot h

theorem spot_add {w : World} {a : Addr} {n : Nat} {v : Value} (h : w.cell? (a.add n) = some v) : (a.add n).spot = none := World.cell?_spot h

theorem addr_plain {a : Addr} (h : a.spot = none) : a = ⟨a.block, a.off, none⟩ := by
  cases a
  simp at h
  subst h
  rfl

/-- A byte slice that came in. -/
theorem openBytes {fuel : Nat} {v : Value} {x : DataW H × List MemPlace} (h : DataW.trod enc Tryf.prog W base spare held fuel 30 [v] = some x) :
    ∃ s, IsBytes W v s ∧ (∀ g a l c, l ≠ 0 → v = .slice (some ⟨g, a, none⟩) l c → g < W.heap.size) := by
  rcases open_ints Tryf.underlying30 Tryf.underlying5 (by kernel_rfl) h with ⟨hcs, _⟩ | ⟨a, len, cap, zs, hcs, _, hl, hm, hz, _, hcell, _⟩
  · simp at hcs
    subst hcs
    exact ⟨ByteArray.empty, Or.inl ⟨none, 0, 0, rfl, Or.inl rfl, rfl⟩, fun g a l c _ hv => by cases hv⟩
  · simp at hcs
    subst hcs
    by_cases h0 : len = 0
    · subst h0
      exact ⟨ByteArray.empty, Or.inl ⟨some a, 0, cap, rfl, Or.inr rfl, rfl⟩, fun g a' l c hl0 hv => by cases hv; exact absurd rfl hl0⟩
    · have hlen : len ≤ zs.length := by rw [hz]; split <;> omega
      have hc0 := hcell 0 (by omega)
      have hsp : a.spot = none := by
        have := spot_none hc0
        simpa [Addr.add] using this
      obtain ⟨b, off, spot⟩ := a
      dsimp only at hsp
      subst hsp
      have hc : ∀ i, i < len → W.cell? ⟨b, off + i, none⟩ = some (.int .u8 ((zs.take len).getD i 0)) := fun i hi => by
        have := hcell i (by omega)
        rw [Addr.add_lit] at this
        rw [this, List.getD_eq_getElem?_getD, List.getD_eq_getElem?_getD, List.getElem?_take, if_pos hi]
      refine ⟨strOfNums (zs.take len), Or.inr ⟨b, off, len, cap, zs.take len, rfl, by simp; omega, rfl, fun i hi => ⟨World.block_lt_of_cell? W _ (hc i hi), hc i hi⟩⟩, fun g a' l c hl0 hv => ?_⟩
      cases hv
      exact World.block_lt_of_cell? W _ (hc 0 (by omega))

theorem i64_of_wf {n : Int} (h : (Lit.int .i64 n).wf = true) : I64 n := by
  simp [Lit.wf, IntKind.min, IntKind.max, IntKind.signed, IntKind.bits] at h
  unfold I64
  omega

/-- One event that came in. -/
theorem openEv {fuel : Nat} {cs : List Value} {x : DataW H × List MemPlace} (h : DataW.trod enc Tryf.prog W base spare held fuel 32 cs = some x) :
    ∃ (e : PEv) (vt vn vm vb : Value), cs = (evA e vt vn vm vb).toList ∧ e.Ok ∧ IsBytes W vt e.tid ∧ (∀ g a l c, l ≠ 0 → vt = .slice (some ⟨g, a, none⟩) l c → g < W.heap.size) ∧ (∃ a l c, vn = .slice a l c) ∧ (∃ a l c, vm = .slice a l c) ∧ (∃ a l c, vb = .slice a l c) := by
  obtain ⟨xs, n, rfl, _, hl, hxs, hf⟩ := DataW.trod_struct Tryf.underlying32 h
  have hl17 : cs.length = 17 := by rw [hl]; kernel_rfl
  have hxs17 : xs.length = 17 := by rw [hxs]; rfl
  have hgt : ∀ q, q < 17 → ∃ y, xs[q]? = some y := fun q hq => ⟨_, List.getElem?_eq_getElem (by omega)⟩
  obtain ⟨y0, hy0⟩ := hgt 0 (by omega)
  have g0 : DataW.trod enc Tryf.prog W base spare held n 3 ((cs.drop 0).take 1) = some y0 := by
    have h' : DataW.trod enc Tryf.prog W base spare held n 3 ((cs.drop 0).take (Tryf.prog.cellsOf 3)) = some y0 := (hf 0 ⟨"Kind", 3, 0, false, "", "", 0⟩ rfl).trans hy0
    rw [wide3] at h'
    exact h'
  obtain ⟨y1, hy1⟩ := hgt 1 (by omega)
  have g1 : DataW.trod enc Tryf.prog W base spare held n 9 ((cs.drop 1).take 1) = some y1 := by
    have h' : DataW.trod enc Tryf.prog W base spare held n 9 ((cs.drop 1).take (Tryf.prog.cellsOf 9)) = some y1 := (hf 1 ⟨"Olympiad", 9, 1, false, "", "", 8⟩ rfl).trans hy1
    rw [wide9] at h'
    exact h'
  obtain ⟨y2, hy2⟩ := hgt 2 (by omega)
  have g2 : DataW.trod enc Tryf.prog W base spare held n 2 ((cs.drop 2).take 1) = some y2 := by
    have h' : DataW.trod enc Tryf.prog W base spare held n 2 ((cs.drop 2).take (Tryf.prog.cellsOf 2)) = some y2 := (hf 2 ⟨"At", 2, 2, false, "", "", 24⟩ rfl).trans hy2
    rw [wide2] at h'
    exact h'
  obtain ⟨y3, hy3⟩ := hgt 3 (by omega)
  have g3 : DataW.trod enc Tryf.prog W base spare held n 9 ((cs.drop 3).take 1) = some y3 := by
    have h' : DataW.trod enc Tryf.prog W base spare held n 9 ((cs.drop 3).take (Tryf.prog.cellsOf 9)) = some y3 := (hf 3 ⟨"Team", 9, 3, false, "", "", 32⟩ rfl).trans hy3
    rw [wide9] at h'
    exact h'
  obtain ⟨y4, hy4⟩ := hgt 4 (by omega)
  have g4 : DataW.trod enc Tryf.prog W base spare held n 30 ((cs.drop 4).take 1) = some y4 := by
    have h' : DataW.trod enc Tryf.prog W base spare held n 30 ((cs.drop 4).take (Tryf.prog.cellsOf 30)) = some y4 := (hf 4 ⟨"TaskID", 30, 4, false, "", "", 48⟩ rfl).trans hy4
    rw [wide30] at h'
    exact h'
  obtain ⟨y5, hy5⟩ := hgt 5 (by omega)
  have g5 : DataW.trod enc Tryf.prog W base spare held n 2 ((cs.drop 5).take 1) = some y5 := by
    have h' : DataW.trod enc Tryf.prog W base spare held n 2 ((cs.drop 5).take (Tryf.prog.cellsOf 2)) = some y5 := (hf 5 ⟨"Task", 2, 5, false, "", "", 72⟩ rfl).trans hy5
    rw [wide2] at h'
    exact h'
  obtain ⟨y6, hy6⟩ := hgt 6 (by omega)
  have g6 : DataW.trod enc Tryf.prog W base spare held n 9 ((cs.drop 6).take 1) = some y6 := by
    have h' : DataW.trod enc Tryf.prog W base spare held n 9 ((cs.drop 6).take (Tryf.prog.cellsOf 9)) = some y6 := (hf 6 ⟨"Compiler", 9, 6, false, "", "", 80⟩ rfl).trans hy6
    rw [wide9] at h'
    exact h'
  obtain ⟨y7, hy7⟩ := hgt 7 (by omega)
  have g7 : DataW.trod enc Tryf.prog W base spare held n 4 ((cs.drop 7).take 1) = some y7 := by
    have h' : DataW.trod enc Tryf.prog W base spare held n 4 ((cs.drop 7).take (Tryf.prog.cellsOf 4)) = some y7 := (hf 7 ⟨"Force", 4, 7, false, "", "", 96⟩ rfl).trans hy7
    rw [wide4] at h'
    exact h'
  obtain ⟨y8, hy8⟩ := hgt 8 (by omega)
  have g8 : DataW.trod enc Tryf.prog W base spare held n 3 ((cs.drop 8).take 1) = some y8 := by
    have h' : DataW.trod enc Tryf.prog W base spare held n 3 ((cs.drop 8).take (Tryf.prog.cellsOf 3)) = some y8 := (hf 8 ⟨"Submission", 3, 8, false, "", "", 104⟩ rfl).trans hy8
    rw [wide3] at h'
    exact h'
  obtain ⟨y9, hy9⟩ := hgt 9 (by omega)
  have g9 : DataW.trod enc Tryf.prog W base spare held n 3 ((cs.drop 9).take 1) = some y9 := by
    have h' : DataW.trod enc Tryf.prog W base spare held n 3 ((cs.drop 9).take (Tryf.prog.cellsOf 3)) = some y9 := (hf 9 ⟨"Result", 3, 9, false, "", "", 112⟩ rfl).trans hy9
    rw [wide3] at h'
    exact h'
  obtain ⟨y10, hy10⟩ := hgt 10 (by omega)
  have g10 : DataW.trod enc Tryf.prog W base spare held n 30 ((cs.drop 10).take 1) = some y10 := by
    have h' : DataW.trod enc Tryf.prog W base spare held n 30 ((cs.drop 10).take (Tryf.prog.cellsOf 30)) = some y10 := (hf 10 ⟨"TestNumber", 30, 10, false, "", "", 120⟩ rfl).trans hy10
    rw [wide30] at h'
    exact h'
  obtain ⟨y11, hy11⟩ := hgt 11 (by omega)
  have g11 : DataW.trod enc Tryf.prog W base spare held n 30 ((cs.drop 11).take 1) = some y11 := by
    have h' : DataW.trod enc Tryf.prog W base spare held n 30 ((cs.drop 11).take (Tryf.prog.cellsOf 30)) = some y11 := (hf 11 ⟨"Message", 30, 11, false, "", "", 144⟩ rfl).trans hy11
    rw [wide30] at h'
    exact h'
  obtain ⟨y12, hy12⟩ := hgt 12 (by omega)
  have g12 : DataW.trod enc Tryf.prog W base spare held n 2 ((cs.drop 12).take 1) = some y12 := by
    have h' : DataW.trod enc Tryf.prog W base spare held n 2 ((cs.drop 12).take (Tryf.prog.cellsOf 2)) = some y12 := (hf 12 ⟨"Left", 2, 12, false, "", "", 168⟩ rfl).trans hy12
    rw [wide2] at h'
    exact h'
  obtain ⟨y13, hy13⟩ := hgt 13 (by omega)
  have g13 : DataW.trod enc Tryf.prog W base spare held n 4 ((cs.drop 13).take 1) = some y13 := by
    have h' : DataW.trod enc Tryf.prog W base spare held n 4 ((cs.drop 13).take (Tryf.prog.cellsOf 4)) = some y13 := (hf 13 ⟨"Frozen", 4, 13, false, "", "", 176⟩ rfl).trans hy13
    rw [wide4] at h'
    exact h'
  obtain ⟨y14, hy14⟩ := hgt 14 (by omega)
  have g14 : DataW.trod enc Tryf.prog W base spare held n 30 ((cs.drop 14).take 1) = some y14 := by
    have h' : DataW.trod enc Tryf.prog W base spare held n 30 ((cs.drop 14).take (Tryf.prog.cellsOf 30)) = some y14 := (hf 14 ⟨"Meta", 30, 14, false, "", "", 184⟩ rfl).trans hy14
    rw [wide30] at h'
    exact h'
  obtain ⟨y15, hy15⟩ := hgt 15 (by omega)
  have g15 : DataW.trod enc Tryf.prog W base spare held n 2 ((cs.drop 15).take 1) = some y15 := by
    have h' : DataW.trod enc Tryf.prog W base spare held n 2 ((cs.drop 15).take (Tryf.prog.cellsOf 2)) = some y15 := (hf 15 ⟨"Offset", 2, 15, false, "", "", 208⟩ rfl).trans hy15
    rw [wide2] at h'
    exact h'
  obtain ⟨y16, hy16⟩ := hgt 16 (by omega)
  have g16 : DataW.trod enc Tryf.prog W base spare held n 2 ((cs.drop 16).take 1) = some y16 := by
    have h' : DataW.trod enc Tryf.prog W base spare held n 2 ((cs.drop 16).take (Tryf.prog.cellsOf 2)) = some y16 := (hf 16 ⟨"Size", 2, 16, false, "", "", 216⟩ rfl).trans hy16
    rw [wide2] at h'
    exact h'
  clear hf hgt hxs hxs17 hl h
  obtain ⟨c0, c1, c2, c3, c4, c5, c6, c7, c8, c9, c10, c11, c12, c13, c14, c15, c16, rfl⟩ : ∃ c0 c1 c2 c3 c4 c5 c6 c7 c8 c9 c10 c11 c12 c13 c14 c15 c16, cs = [c0, c1, c2, c3, c4, c5, c6, c7, c8, c9, c10, c11, c12, c13, c14, c15, c16] := by
    match cs, hl17 with
    | [c0, c1, c2, c3, c4, c5, c6, c7, c8, c9, c10, c11, c12, c13, c14, c15, c16], _ => exact ⟨_, _, _, _, _, _, _, _, _, _, _, _, _, _, _, _, _, rfl⟩
  replace g0 : DataW.trod enc Tryf.prog W base spare held n 3 [c0] = some y0 := g0
  obtain ⟨n0, hn0, _, w0⟩ := DataW.trod_int Tryf.underlying3 g0
  obtain rfl : c0 = .int .i64 n0 := by simpa using hn0
  replace g1 : DataW.trod enc Tryf.prog W base spare held n 9 [c1] = some y1 := g1
  obtain ⟨s1, hs1, _, w1⟩ := DataW.trod_string Tryf.underlying9 g1
  obtain rfl : c1 = .string s1 := by simpa using hs1
  replace g2 : DataW.trod enc Tryf.prog W base spare held n 2 [c2] = some y2 := g2
  obtain ⟨n2, hn2, _, w2⟩ := DataW.trod_int Tryf.underlying2 g2
  obtain rfl : c2 = .int .i64 n2 := by simpa using hn2
  replace g3 : DataW.trod enc Tryf.prog W base spare held n 9 [c3] = some y3 := g3
  obtain ⟨s3, hs3, _, w3⟩ := DataW.trod_string Tryf.underlying9 g3
  obtain rfl : c3 = .string s3 := by simpa using hs3
  replace g4 : DataW.trod enc Tryf.prog W base spare held n 30 [c4] = some y4 := g4
  obtain ⟨s4, hs4, hw4⟩ := openBytes g4
  replace g5 : DataW.trod enc Tryf.prog W base spare held n 2 [c5] = some y5 := g5
  obtain ⟨n5, hn5, _, w5⟩ := DataW.trod_int Tryf.underlying2 g5
  obtain rfl : c5 = .int .i64 n5 := by simpa using hn5
  replace g6 : DataW.trod enc Tryf.prog W base spare held n 9 [c6] = some y6 := g6
  obtain ⟨s6, hs6, _, w6⟩ := DataW.trod_string Tryf.underlying9 g6
  obtain rfl : c6 = .string s6 := by simpa using hs6
  replace g7 : DataW.trod enc Tryf.prog W base spare held n 4 [c7] = some y7 := g7
  obtain ⟨b7, hb7, _⟩ := DataW.trod_bool Tryf.underlying4 g7
  obtain rfl : c7 = .bool b7 := by simpa using hb7
  replace g8 : DataW.trod enc Tryf.prog W base spare held n 3 [c8] = some y8 := g8
  obtain ⟨n8, hn8, _, w8⟩ := DataW.trod_int Tryf.underlying3 g8
  obtain rfl : c8 = .int .i64 n8 := by simpa using hn8
  replace g9 : DataW.trod enc Tryf.prog W base spare held n 3 [c9] = some y9 := g9
  obtain ⟨n9, hn9, _, w9⟩ := DataW.trod_int Tryf.underlying3 g9
  obtain rfl : c9 = .int .i64 n9 := by simpa using hn9
  replace g10 : DataW.trod enc Tryf.prog W base spare held n 30 [c10] = some y10 := g10
  obtain ⟨s10, hs10, hw10⟩ := openBytes g10
  replace g11 : DataW.trod enc Tryf.prog W base spare held n 30 [c11] = some y11 := g11
  obtain ⟨s11, hs11, hw11⟩ := openBytes g11
  replace g12 : DataW.trod enc Tryf.prog W base spare held n 2 [c12] = some y12 := g12
  obtain ⟨n12, hn12, _, w12⟩ := DataW.trod_int Tryf.underlying2 g12
  obtain rfl : c12 = .int .i64 n12 := by simpa using hn12
  replace g13 : DataW.trod enc Tryf.prog W base spare held n 4 [c13] = some y13 := g13
  obtain ⟨b13, hb13, _⟩ := DataW.trod_bool Tryf.underlying4 g13
  obtain rfl : c13 = .bool b13 := by simpa using hb13
  replace g14 : DataW.trod enc Tryf.prog W base spare held n 30 [c14] = some y14 := g14
  obtain ⟨s14, hs14, hw14⟩ := openBytes g14
  replace g15 : DataW.trod enc Tryf.prog W base spare held n 2 [c15] = some y15 := g15
  obtain ⟨n15, hn15, _, w15⟩ := DataW.trod_int Tryf.underlying2 g15
  obtain rfl : c15 = .int .i64 n15 := by simpa using hn15
  replace g16 : DataW.trod enc Tryf.prog W base spare held n 2 [c16] = some y16 := g16
  obtain ⟨n16, hn16, _, w16⟩ := DataW.trod_int Tryf.underlying2 g16
  obtain rfl : c16 = .int .i64 n16 := by simpa using hn16
  exact ⟨⟨n0, s1, n2, s3, s4, n5, s6, b7, n8, n9, n12, b13, n15, n16⟩, c4, c10, c11, c14, rfl, ⟨i64_of_wf w2, i64_of_wf w5, i64_of_wf w12, i64_of_wf w15, i64_of_wf w16, w1, w3⟩, hs4, hw4, hs10.form, hs11.form, hs14.form⟩

/-- An event's cells, out of its row. -/
theorem evCell {e : PEv} {vt vn vm vb : Value} {y : Addr} (h : W.cells? base y 17 = some (evA e vt vn vm vb).toList) : y.spot = none ∧ y.block < W.heap.size ∧ ∀ q, q < 17 → W.cell? (y.add q) = (evA e vt vn vm vb)[q]? := by
  obtain ⟨_, _, hc⟩ := World.cells?_some h
  have hc' : ∀ q, q < 17 → W.cell? (y.add q) = (evA e vt vn vm vb)[q]? := fun q hq => by
    rw [hc q hq]
    simp
  have h0 : W.cell? (y.add 0) = some (.int .i64 e.kind) := hc' 0 (by omega)
  have h1 : W.cell? y = some (.int .i64 e.kind) := by simpa [Addr.add] using h0
  exact ⟨World.cell?_spot h1, World.block_lt_of_cell? W _ h1, hc'⟩

/-- The slice of events that came in. -/
theorem opened {fuel : Nat} {a : Option Addr} {len cap : Nat} {x : DataW H × List MemPlace} (hf : DataW.trod enc Tryf.prog W base spare held fuel 22 (Value.slice a len cap).cells.toList = some x) : ∃ E V, IsEvs W a len cap E V := by
  rcases DataW.trod_slice Tryf.underlying22 hf with ⟨hcs, _⟩ | ⟨y, l, c, elems, rest, n, _, hcs, _, _, hl, hm, hlen, hel, _, _⟩
  · simp [Value.cells] at hcs
    obtain ⟨rfl, rfl, rfl⟩ := hcs
    exact ⟨fun _ => ⟨0, ByteArray.empty, 0, ByteArray.empty, ByteArray.empty, 0, ByteArray.empty, false, 0, 0, 0, false, 0, 0⟩, fun _ _ => .nilIface, Nat.le_refl _, Nat.zero_le _, fun i hi => absurd hi (Nat.not_lt_zero _)⟩
  · simp [Value.cells] at hcs
    obtain ⟨rfl, rfl, rfl⟩ := hcs
    have hc17 : Tryf.prog.cellsOf 32 = 17 := by kernel_rfl
    have key : ∀ i, i < len → ∃ e vt vn vm vb, W.cells? base (y.add (i * 17)) 17 = some (evA e vt vn vm vb).toList ∧ e.Ok ∧ IsBytes W vt e.tid ∧ (∀ g a l c, l ≠ 0 → vt = .slice (some ⟨g, a, none⟩) l c → g < W.heap.size) ∧ (∃ a l c, vn = .slice a l c) ∧ (∃ a l c, vm = .slice a l c) ∧ (∃ a l c, vb = .slice a l c) := fun i hi => by
      have h1 := hel i hi
      rw [hc17, List.getElem?_eq_getElem (by omega), Option.bind_eq_some_iff] at h1
      obtain ⟨cs, hcells, htr⟩ := h1
      obtain ⟨e, vt, vn, vm, vb, rfl, hok, hby, hlow, hn, hm', hb⟩ := openEv htr
      exact ⟨e, vt, vn, vm, vb, hcells, hok, hby, hlow, hn, hm', hb⟩
    have each : ∀ i, ∃ r : PEv × (Nat → Value), i < len → ∃ b off, some y = some ⟨b, off, none⟩ ∧ EvAt W b (off + i * 17) r.1 (r.2 0) (r.2 1) (r.2 2) (r.2 3) := fun i => by
      by_cases hi : i < len
      · obtain ⟨e, vt, vn, vm, vb, hcells, hok, hby, hlow, hn, hm', hb⟩ := key i hi
        obtain ⟨_, hblk, hcell⟩ := evCell hcells
        have hy0 : y.spot = none := by
          obtain ⟨e0, _, _, _, _, hcells0, _⟩ := key 0 (by omega)
          have h2 := (evCell hcells0).1
          simpa [Addr.add] using h2
        obtain ⟨b, off, spot⟩ := y
        dsimp only at hy0
        subst hy0
        rw [Addr.add_lit] at hcell hblk
        refine ⟨⟨e, fun q => if q = 0 then vt else if q = 1 then vn else if q = 2 then vm else vb⟩, fun _ => ⟨b, off, rfl, hblk, fun q hq => ?_, hok, hby, hlow, hn, hm', hb⟩⟩
        have := hcell q hq
        rw [Addr.add_lit] at this
        exact this
      · exact ⟨⟨⟨0, ByteArray.empty, 0, ByteArray.empty, ByteArray.empty, 0, ByteArray.empty, false, 0, 0, 0, false, 0, 0⟩, fun _ => .nilIface⟩, fun h => absurd h hi⟩
    exact ⟨fun i => (Classical.choose (each i)).1, fun i => (Classical.choose (each i)).2, hl, hm, fun i hi => Classical.choose_spec (each i) hi⟩
end
end Go.Proofs.Qxb6616853aFmt
