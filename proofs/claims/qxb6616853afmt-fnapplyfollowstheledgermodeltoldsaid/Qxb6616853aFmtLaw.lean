import Derived.Test.Qxb6616853aFmtHone
import Derived.Test.Qxb6616853aFmtMk1
import Derived.Test.Qxb6616853aFmtMk2
import Derived.Test.Qxb6616853aFmtMk3
import Derived.Test.Qxb6616853aFmtMk3r
import Derived.Test.Qxb6616853aFmtMk6
import Derived.Test.Qxb6616853aFmtMk7
import Derived.Test.Qxb6616853aFmtMat
import Derived.Test.Qxb6616853aFmtFit
namespace Go.Proofs.Qxb6616853aFmt
open Go.RowKit Go.Extern.Stop Go.Stop Go.Extern
attribute [local go_sem ↓] Go.wp_at_zero Go.wp_at_succ

/-- The model's step, whatever the event. -/
theorem step_any (w : World) (v : Value) (Ls : List PLed) (x : Nat → Nat → Value) (N : Nat) (e : PEv) (vt vn vm vb : Value) (h : IsMod w v Ls x) (hok : AllOk Ls N) (hN : N < 4096) (he : e.Ok) (hbt : IsBytes w vt e.tid) (hlow : ∀ b, foot v Ls.length x b → ∀ a l c, l ≠ 0 → vt ≠ .slice (some ⟨b, a, none⟩) l c) :
    Calls Tryf.prog 8 #[v, .agg (evA e vt vn vm vb)] w (StepPost w (foot v Ls.length x) (stepAll Ls e) (refAll Ls e)) := by
  by_cases h1 : e.kind = 1
  · exact step_k1 w v Ls x N e vt vn vm vb h hok hN he h1
  by_cases h2 : e.kind = 2
  · exact step_k2 w v Ls x N e vt vn vm vb h hok hN he ⟨hbt, hlow⟩ h2
  by_cases h3 : e.kind = 3
  · cases hr : refAll Ls e
    · have := step_k3 w v Ls x N e vt vn vm vb h hok hN he hr h3
      rw [hr] at this
      exact this
    · have := step_k3r w v Ls x N e vt vn vm vb h hok hN he hr h3
      rw [hr] at this
      exact this
  by_cases h4 : e.kind = 4
  · exact step_k4 w v Ls x N e vt vn vm vb h hok hN he h4
  by_cases h5 : e.kind = 5
  · exact step_k5 w v Ls x N e vt vn vm vb h hok hN he h5
  by_cases h6 : e.kind = 6
  · exact step_k6 w v Ls x N e vt vn vm vb h hok hN he h6
  by_cases h7 : e.kind = 7
  · exact step_k7 w v Ls x N e vt vn vm vb h hok hN he h7
  by_cases h8 : e.kind = 8
  · cases hf : e.frozen
    · exact step_k8f w v Ls x N e vt vn vm vb h hok hN he hf h8
    · exact step_k8t w v Ls x N e vt vn vm vb h hok hN he hf h8
  by_cases h9 : e.kind = 9
  · exact step_k9 w v Ls x N e vt vn vm vb h hok hN he h9
  exact step_ko w v Ls x N e vt vn vm vb h hok hN he ⟨h1, h2, h3, h4, h5, h6, h7, h8, h9⟩

/-- The ledgers behind the first k events. -/
def runE (E : Nat → PEv) : Nat → List PLed
  | 0 => []
  | k + 1 => stepAll (runE E k) (E k)

theorem runE_ok {E : Nat → PEv} {len : Nat} (h : ∀ i, i < len → (E i).Ok) : ∀ k, k ≤ len → AllOk (runE E k) k
  | 0, _ => AllOk.nil
  | k + 1, hk => (runE_ok h k (by omega)).step (h k (by omega))

/-- The hub and the model side by side, k events on. -/
structure Both (W : World) (H hm : Nat) (Ls : List PLed) (v : Value) (p : Nat → Nat) (G : Nat → Nat → Prop) (x : Nat → Nat → Value) (wr : World) : Prop where
  hub : HubAt wr 9 H hm Ls p G
  mod : IsMod wr v Ls x
  bel : Below W.heap.size W wr
  hup : ∀ b, hfoot H hm Ls.length G b → W.heap.size ≤ b
  mup : ∀ b, foot v Ls.length x b → W.heap.size ≤ b
  apart : ∀ b, hfoot H hm Ls.length G b → ¬ foot v Ls.length x b

def BothE (W : World) (H hm : Nat) (Ls : List PLed) (v : Value) (wr : World) : Prop := ∃ p G x, Both W H hm Ls v p G x wr

theorem Both.hubStep {W w2 wr : World} {H hm : Nat} {Ls Ls' : List PLed} {v : Value} {p p' : Nat → Nat} {G G' : Nat → Nat → Prop} {x : Nat → Nat → Value} (h : Both W H hm Ls v p G x wr) (hub : HubAt w2 9 H hm Ls' p' G') (fr : Framed wr (hfoot H hm Ls.length G) w2 (hfoot H hm Ls'.length G')) :
    IsMod w2 v Ls x ∧ Below W.heap.size W w2 ∧ (∀ b, hfoot H hm Ls'.length G' b → W.heap.size ≤ b) ∧ (∀ b, hfoot H hm Ls'.length G' b → ¬ foot v Ls.length x b) ∧ (∀ b, hfoot H hm Ls'.length G' b → b < w2.heap.size) := by
  have hs := h.bel.size
  refine ⟨h.mod.frame (fun b hb => fr.block b (h.mod.foot_lt hb) (fun hf => h.apart b hf hb)), fr.below h.bel hs h.hup, fun b hb => ?_, fun b hb hf => ?_, fun b hb => hub.lt hb⟩
  · rcases fr.inside b hb with h1 | h1
    · exact h.hup b h1
    · omega
  · rcases fr.inside b hb with h1 | h1
    · exact h.apart b h1 hf
    · have := h.mod.foot_lt hf
      omega

theorem Both.modStep {W w2 w3 : World} {H hm : Nat} {Ls Ls' : List PLed} {v v3 : Value} {p' : Nat → Nat} {G' : Nat → Nat → Prop} {x x3 : Nat → Nat → Value} (hub : HubAt w2 9 H hm Ls' p' G') (bel : Below W.heap.size W w2) (hup : ∀ b, hfoot H hm Ls'.length G' b → W.heap.size ≤ b) (mup : ∀ b, foot v Ls.length x b → W.heap.size ≤ b)
    (apart : ∀ b, hfoot H hm Ls'.length G' b → ¬ foot v Ls.length x b) (mod3 : IsMod w3 v3 Ls' x3) (fr : Framed w2 (foot v Ls.length x) w3 (foot v3 Ls'.length x3)) : Both W H hm Ls' v3 p' G' x3 w3 := by
  have hs := bel.size
  refine ⟨hub.frame (fun b hb => fr.block b (hub.lt hb) (apart b hb)) fr.size, mod3, fr.below bel hs mup, hup, fun b hb => ?_, fun b hb hf => ?_⟩
  · rcases fr.inside b hb with h1 | h1
    · exact mup b h1
    · omega
  · rcases fr.inside b hf with h1 | h1
    · exact apart b hb h1
    · have := hub.lt hb
      omega

def LawPost (W : World) (e : Ending) (w' : World) : Prop := ∃ b : Bool, e = .returned (.bool b) ∧ b = true ∧ Below W.heap.size W w'

set_option maxRecDepth 20000 in
set_option maxHeartbeats 8000000 in
theorem law_any (Fi : Interp) (W : World) (a : Option Addr) (len cap : Nat) (E : Nat → PEv) (V : Nat → Nat → Value) (hFi : Fi.answers W.tape) (h : IsEvs W a len cap E V) : Calls Tryf.prog 3 #[.slice a len cap] W (LawPost W) := by
  have hzb := zzBytes_any W a len cap E V h
  have hm63 : len ≤ 9223372036854775807 := by
    obtain ⟨h1, h2, _⟩ := h
    unfold maxLen at h2
    omega
  have HE : Hid (IsEvs W a len cap E V) := h
  have HFI : Hid (Fi.answers W.tape) := hFi
  clear h hFi
  go_enter Tryf.func3, Tryf.ntmps3
  go_wp2_with fail
  refine hzb.mono ?_
  rintro e0 w0 ⟨b0, rfl, rfl⟩
  clear hzb
  cases b0
  · go_wp2
    go_ret
    exact ⟨_, rfl, rfl, Below.refl _ _⟩
  by_cases hl : len ≤ 4096
  case neg =>
    go_wp2
    go_ret
    exact ⟨_, rfl, rfl, Below.refl _ _⟩
  have hfit := zzFit_any w0 a len cap E V HE.out hl
  go_wp2_with fail
  refine hfit.mono ?_
  rintro e1 w1 ⟨m1, b1, rfl, rfl⟩
  clear hfit
  cases b1
  · go_wp2
    go_ret
    exact ⟨_, rfl, rfl, Below.refl _ _⟩
  go_wp2_with fail
  refine (newHub_any _).mono ?_
  rintro e2 w2 ⟨H, hm, rfl, hub, hH, hM, hb2⟩
  have HST : Hid (BothE w1 H hm (runE E 0) (.slice none 0 0) w2) := ⟨_, _, fun _ _ => .slice none 0 0, hub, ⟨World.ownsRow_nil _ _ _ _, fun i f hi => absurd hi (Nat.not_lt_zero _), fun i f j g b hi => absurd hi (Nat.not_lt_zero _)⟩, hb2, fun b hb => by
    rcases hb with rfl | rfl | ⟨i, hi, _⟩
    · exact hH
    · exact hM
    · exact absurd hi (Nat.not_lt_zero _), fun b hb => by
    rcases hb with hb | ⟨i, f, hi, _⟩
    · simp [Value.ownBlock] at hb
    · exact absurd hi (Nat.not_lt_zero _), fun b _ hb => by
    rcases hb with hb | ⟨i, f, hi, _⟩
    · simp [Value.ownBlock] at hb
    · exact absurd hi (Nat.not_lt_zero _)⟩
  clear hub hH hM hb2
  go_wp2
  go_loopw [6, 7] (fun v6 v7 wr => ∃ (k : Nat) (v : Value), k ≤ len ∧ v7 = .int .i64 k ∧ v = v6 ∧ BothE w1 H hm (runE E k) v wr) (fun _ v7 _ => len - (intOf v7).toNat)
  case atStart => exact ⟨0, _, Nat.zero_le _, rfl, rfl, HST.out⟩
  case round =>
  clear HST
  obtain ⟨k, v, hk, rfl, rfl, hbo⟩ := hrel
  have HOKS : Hid (AllOk (runE E k) k) := runE_ok (fun i hi => by
    obtain ⟨b, off, _, hev⟩ := HE.out.2.2 i hi
    exact hev.ok) k hk
  by_cases hlt : k < len
  · obtain ⟨b, off, rfl, hev⟩ := HE.out.2.2 k hlt
    obtain ⟨p, G, x, hB⟩ := hbo
    obtain ⟨e, he⟩ : ∃ e, e = E k := ⟨_, rfl⟩
    rw [← he] at hev
    obtain ⟨ta, tl, tc, hvt⟩ := hev.by_.form
    obtain ⟨na, nl, nc, hvn⟩ := hev.fn
    obtain ⟨ma, ml, mc, hvm⟩ := hev.fm
    obtain ⟨ba, bl, bc, hvb⟩ := hev.fb
    rw [hvt, hvn, hvm, hvb] at hev
    have hcell : ∀ wx, Below w1.heap.size w1 wx → ∀ q, q < 17 → wx.cell? ⟨b, off + k * 17 + q, none⟩ = (evA e (.slice ta tl tc) (.slice na nl nc) (.slice ma ml mc) (.slice ba bl bc))[q]? := fun wx hb q hq => (hb.cell (p := ⟨b, off + k * 17 + q, none⟩) hev.lt).trans (hev.cell q hq)
    have hone := one_any Fi wr H hm (runE E k) p G k e (.slice ta tl tc) (.slice na nl nc) (.slice ma ml mc) (.slice ba bl bc) (by rw [hB.bel.tape]; exact HFI.out) hB.hub HOKS.out (by omega) hev.ok
      ⟨hev.by_.below' hB.bel, fun g hg a l c hl0 hv => by
        have h1 := hev.low g a l c hl0 hv
        have h2 := hB.hup g hg
        omega, ⟨_, _, _, rfl⟩, ⟨_, _, _, rfl⟩, ⟨_, _, _, rfl⟩⟩
    have HCELL : Hid (∀ wx, Below w1.heap.size w1 wx → ∀ q, q < 17 → wx.cell? ⟨b, off + k * 17 + q, none⟩ = (evA e (.slice ta tl tc) (.slice na nl nc) (.slice ma ml mc) (.slice ba bl bc))[q]?) := hcell
    have HEV : Hid _ := hev
    have HB : Hid (Both w1 H hm (runE E k) v p G x wr) := hB
    have HEE : Hid (e = E k) := he
    have y0 : wr.cell? ⟨b, off + k * 17, none⟩ = some (.int .i64 e.kind) := HCELL.out _ HB.out.bel 0 (by omega)
    have y1 : wr.cell? ⟨b, off + k * 17 + 1, none⟩ = some (.string e.oly) := HCELL.out _ HB.out.bel 1 (by omega)
    have y2 : wr.cell? ⟨b, off + k * 17 + 2, none⟩ = some (.int .i64 e.at_) := HCELL.out _ HB.out.bel 2 (by omega)
    have y3 : wr.cell? ⟨b, off + k * 17 + 3, none⟩ = some (.string e.team) := HCELL.out _ HB.out.bel 3 (by omega)
    have y4 : wr.cell? ⟨b, off + k * 17 + 4, none⟩ = some (.slice ta tl tc) := HCELL.out _ HB.out.bel 4 (by omega)
    have y5 : wr.cell? ⟨b, off + k * 17 + 5, none⟩ = some (.int .i64 e.task) := HCELL.out _ HB.out.bel 5 (by omega)
    have y6 : wr.cell? ⟨b, off + k * 17 + 6, none⟩ = some (.string e.comp) := HCELL.out _ HB.out.bel 6 (by omega)
    have y7 : wr.cell? ⟨b, off + k * 17 + 7, none⟩ = some (.bool e.force) := HCELL.out _ HB.out.bel 7 (by omega)
    have y8 : wr.cell? ⟨b, off + k * 17 + 8, none⟩ = some (.int .i64 e.sub) := HCELL.out _ HB.out.bel 8 (by omega)
    have y9 : wr.cell? ⟨b, off + k * 17 + 9, none⟩ = some (.int .i64 e.res) := HCELL.out _ HB.out.bel 9 (by omega)
    have y10 : wr.cell? ⟨b, off + k * 17 + 10, none⟩ = some (.slice na nl nc) := HCELL.out _ HB.out.bel 10 (by omega)
    have y11 : wr.cell? ⟨b, off + k * 17 + 11, none⟩ = some (.slice ma ml mc) := HCELL.out _ HB.out.bel 11 (by omega)
    have y12 : wr.cell? ⟨b, off + k * 17 + 12, none⟩ = some (.int .i64 e.left) := HCELL.out _ HB.out.bel 12 (by omega)
    have y13 : wr.cell? ⟨b, off + k * 17 + 13, none⟩ = some (.bool e.frozen) := HCELL.out _ HB.out.bel 13 (by omega)
    have y14 : wr.cell? ⟨b, off + k * 17 + 14, none⟩ = some (.slice ba bl bc) := HCELL.out _ HB.out.bel 14 (by omega)
    have y15 : wr.cell? ⟨b, off + k * 17 + 15, none⟩ = some (.int .i64 e.off) := HCELL.out _ HB.out.bel 15 (by omega)
    have y16 : wr.cell? ⟨b, off + k * 17 + 16, none⟩ = some (.int .i64 e.size) := HCELL.out _ HB.out.bel 16 (by omega)
    clear hvt hvn hvm hvb hev hcell hB he
    unfold evA at hone
    go_wp2_with fail
    refine hone.mono ?_
    rintro e3 w3 ⟨r3, p3, G3, rfl, hr3, hub3, fr3⟩
    obtain ⟨s1, s2, s3, s4, s5⟩ := HB.out.hubStep hub3 fr3
    have hstep := step_any w3 v (runE E k) x k e (.slice ta tl tc) (.slice na nl nc) (.slice ma ml mc) (.slice ba bl bc) s1 HOKS.out (by omega) HEV.out.ok (HEV.out.by_.below' s2) (fun g hg a l c hl0 hv => by
      have h1 := HEV.out.low g a l c hl0 hv
      have h2 := HB.out.mup g hg
      omega)
    have HNX : Hid (∀ v4 x4 w4, IsMod w4 v4 (stepAll (runE E k) e) x4 → Framed w3 (foot v (runE E k).length x) w4 (foot v4 (stepAll (runE E k) e).length x4) → Both w1 H hm (stepAll (runE E k) e) v4 p3 G3 x4 w4) := fun v4 x4 w4 m4 f4 => Both.modStep hub3 s2 s3 HB.out.mup s4 m4 f4
    have HR3 : Hid (r3 = refAll (runE E k) e) := hr3
    have z0 : w3.cell? ⟨b, off + k * 17, none⟩ = some (.int .i64 e.kind) := HCELL.out _ s2 0 (by omega)
    have z1 : w3.cell? ⟨b, off + k * 17 + 1, none⟩ = some (.string e.oly) := HCELL.out _ s2 1 (by omega)
    have z2 : w3.cell? ⟨b, off + k * 17 + 2, none⟩ = some (.int .i64 e.at_) := HCELL.out _ s2 2 (by omega)
    have z3 : w3.cell? ⟨b, off + k * 17 + 3, none⟩ = some (.string e.team) := HCELL.out _ s2 3 (by omega)
    have z4 : w3.cell? ⟨b, off + k * 17 + 4, none⟩ = some (.slice ta tl tc) := HCELL.out _ s2 4 (by omega)
    have z5 : w3.cell? ⟨b, off + k * 17 + 5, none⟩ = some (.int .i64 e.task) := HCELL.out _ s2 5 (by omega)
    have z6 : w3.cell? ⟨b, off + k * 17 + 6, none⟩ = some (.string e.comp) := HCELL.out _ s2 6 (by omega)
    have z7 : w3.cell? ⟨b, off + k * 17 + 7, none⟩ = some (.bool e.force) := HCELL.out _ s2 7 (by omega)
    have z8 : w3.cell? ⟨b, off + k * 17 + 8, none⟩ = some (.int .i64 e.sub) := HCELL.out _ s2 8 (by omega)
    have z9 : w3.cell? ⟨b, off + k * 17 + 9, none⟩ = some (.int .i64 e.res) := HCELL.out _ s2 9 (by omega)
    have z10 : w3.cell? ⟨b, off + k * 17 + 10, none⟩ = some (.slice na nl nc) := HCELL.out _ s2 10 (by omega)
    have z11 : w3.cell? ⟨b, off + k * 17 + 11, none⟩ = some (.slice ma ml mc) := HCELL.out _ s2 11 (by omega)
    have z12 : w3.cell? ⟨b, off + k * 17 + 12, none⟩ = some (.int .i64 e.left) := HCELL.out _ s2 12 (by omega)
    have z13 : w3.cell? ⟨b, off + k * 17 + 13, none⟩ = some (.bool e.frozen) := HCELL.out _ s2 13 (by omega)
    have z14 : w3.cell? ⟨b, off + k * 17 + 14, none⟩ = some (.slice ba bl bc) := HCELL.out _ s2 14 (by omega)
    have z15 : w3.cell? ⟨b, off + k * 17 + 15, none⟩ = some (.int .i64 e.off) := HCELL.out _ s2 15 (by omega)
    have z16 : w3.cell? ⟨b, off + k * 17 + 16, none⟩ = some (.int .i64 e.size) := HCELL.out _ s2 16 (by omega)
    clear y0 y1 y2 y3 y4 y5 y6 y7 y8 y9 y10 y11 y12 y13 y14 y15 y16 hone hr3 hub3 fr3 s1 s2 s3 s4 s5
    unfold evA at hstep
    go_wp2_with fail
    refine hstep.mono ?_
    rintro e4 w4 ⟨v4, x4, r4, rfl, hr4, m4, f4⟩
    have hB4 := HNX.out v4 x4 w4 m4 f4
    have hrr : r4 = r3 := by rw [hr4, HR3.out]
    subst hrr
    have HB4 : Hid (BothE w1 H hm (runE E (k + 1)) v4 w4) := ⟨p3, G3, x4, by show Both w1 H hm (stepAll (runE E k) (E k)) v4 p3 G3 x4 w4; rw [← HEE.out]; exact hB4⟩
    clear z0 z1 z2 z3 z4 z5 z6 z7 z8 z9 z10 z11 z12 z13 z14 z15 z16 hstep hr4 m4 f4 hB4 HNX HR3 HB HEV HCELL
    cases r4
    all_goals (go_wp2; go_round)
    all_goals first
      | exact ⟨k + 1, _, by omega, by go_num, rfl, HB4.out⟩
      | (simp [intOf]; omega)
  · obtain rfl : k = len := by omega
    obtain ⟨p, G, x, hB⟩ := hbo
    obtain ⟨va, vc, hv⟩ := owns_form hB.mod.row
    obtain ⟨n, hn⟩ : ∃ n, n = (runE E k).length := ⟨_, rfl⟩
    have hn4 : n ≤ 4096 := by rw [hn]; exact Nat.le_trans HOKS.out.2.2 hl
    have hcnt := accCount wr H hm (runE E k) p G hB.hub
    rw [← hn] at hcnt hv
    subst hv
    have HB : Hid (Both w1 H hm (runE E k) (.slice va n vc) p G x wr) := hB
    have HN : Hid (n = (runE E k).length) := hn
    clear hlt hk hB hn
    go_wp2_with fail
    refine hcnt.mono ?_
    rintro e5 w5 ⟨rfl, hb5⟩
    have HB5 : Hid (Below wr.heap.size wr w5) := hb5
    have HALL : Hid (∀ wq, Below wr.heap.size wr wq → HubAt wq 9 H hm (runE E k) p G ∧ IsMod wq (.slice va n vc) (runE E k) x ∧ Below w1.heap.size w1 wq) := fun wq hbq => ⟨HB.out.hub.below hbq, ModAt.below HB.out.mod hbq, HB.out.bel.trans (hbq.mono HB.out.bel.size)⟩
    have HTR : Hid (∀ wq w6, Below wr.heap.size wr wq → Below wq.heap.size wq w6 → Below wr.heap.size wr w6) := fun wq w6 h1 h2 => h1.trans (h2.mono h1.size)
    clear hb5 hcnt
    go_wp2
    go_loopw [10] (fun vj wq => ∃ j : Nat, j ≤ n ∧ vj = .int .i64 j ∧ Below wr.heap.size wr wq) (fun vj _ => n - (intOf vj).toNat)
    case atStart => exact ⟨0, Nat.zero_le _, rfl, HB5.out⟩
    case round =>
    obtain ⟨j, hj, rfl, hb⟩ := hrel
    clear HB5
    have HBJ : Hid _ := hb
    by_cases hlt : j < n
    · obtain ⟨hub, mod, _⟩ := HALL.out _ hb
      obtain ⟨g, cg, hva, _⟩ := mod.row.form (by rw [← HN.out]; omega)
      rw [← HN.out] at hva
      cases hva
      have hmat := matches_any wr H hm (runE E k) p G k g vc j x hub (by rw [← HN.out]; exact mod) HOKS.out hl (by rw [← HN.out]; exact hlt)
      clear hub mod hb
      go_wp2_with fail
      refine hmat.mono ?_
      rintro e6 w6 ⟨rfl, hb6⟩
      have HB6 : Hid _ := HTR.out _ _ HBJ.out hb6
      clear hb6 hmat
      go_wp2
      go_round
      case rel => exact ⟨j + 1, by omega, by go_num, HB6.out⟩
      case measure => simp [intOf]; omega
    · obtain rfl : j = n := by omega
      clear hlt hj hb
      go_wp2
      go_ret
      exact ⟨_, rfl, rfl, (HALL.out _ HBJ.out).2.2⟩
end Go.Proofs.Qxb6616853aFmt
