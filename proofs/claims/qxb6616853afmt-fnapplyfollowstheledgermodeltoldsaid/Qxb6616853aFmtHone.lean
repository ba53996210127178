import Derived.Test.Qxb6616853aFmtHap7
import Derived.Test.Qxb6616853aFmtHap3
import Derived.Test.Qxb6616853aFmtMpre
namespace Go.Proofs.Qxb6616853aFmt
open Go.RowKit Go.Extern.Stop Go.Stop Go.Extern
attribute [local go_sem ↓] Go.wp_at_zero Go.wp_at_succ

/-- The event's byte slices: vt reads as the task's id, and lies in none of the blocks F. -/
structure EvOk (w : World) (F : Nat → Prop) (e : PEv) (vt vn vm vb : Value) : Prop where
  by_ : IsBytes w vt e.tid
  out : ∀ b, F b → ∀ a l c, l ≠ 0 → vt ≠ .slice (some ⟨b, a, none⟩) l c
  fn : ∃ a l c, vn = .slice a l c
  fm : ∃ a l c, vm = .slice a l c
  fb : ∃ a l c, vb = .slice a l c

theorem EvOk.below {w w' : World} {F : Nat → Prop} {e : PEv} {vt vn vm vb : Value} (h : EvOk w F e vt vn vm vb) (hb : Below w.heap.size w w') : EvOk w' F e vt vn vm vb :=
  ⟨h.by_.below hb (Nat.le_refl _), h.out, h.fn, h.fm, h.fb⟩

theorem apply_any (Fi : Interp) (w : World) (H hm : Nat) (Ls : List PLed) (p : Nat → Nat) (G : Nat → Nat → Prop) (N : Nat) (e : PEv) (vt vn vm vb : Value) (hFi : Fi.answers w.tape) (h : HubAt w 9 H hm Ls p G) (hok : AllOk Ls N) (hN : N < 4096) (he : e.Ok) (hev : EvOk w (hfoot H hm Ls.length G) e vt vn vm vb) :
    Calls Tryf.prog 34 #[.pointer (some ⟨H, 0, none⟩), .agg (evC e vt vn vm), .agg (recC vb e)] w (ApplyPost w H hm Ls G e) := by
  by_cases h1 : e.kind = 1
  · exact apply_k1 w H hm Ls p G N e vt vn vm vb h hok hN he h1
  by_cases h2 : e.kind = 2
  · exact apply_k2 w H hm Ls p G N e vt vn vm vb h hok hN he ⟨hev.by_, hev.out⟩ hev.fn hev.fm hev.fb h2
  by_cases h3 : e.kind = 3
  · exact apply_k3 w H hm Ls p G N e vt vn vm vb h hok hN he Fi hFi hev.by_.form hev.fn hev.fm h3
  by_cases h4 : e.kind = 4
  · exact apply_k4 w H hm Ls p G N e vt vn vm vb h hok hN he h4
  by_cases h5 : e.kind = 5
  · exact apply_k5 w H hm Ls p G N e vt vn vm vb h hok hN he h5
  by_cases h6 : e.kind = 6
  · exact apply_k6 w H hm Ls p G N e vt vn vm vb h hok hN he h6
  by_cases h7 : e.kind = 7
  · exact apply_k7 w H hm Ls p G N e vt vn vm vb h hok hN he h7
  by_cases h8 : e.kind = 8
  · exact apply_k8 w H hm Ls p G N e vt vn vm vb h hok hN he h8
  by_cases h9 : e.kind = 9
  · exact apply_k9 w H hm Ls p G N e vt vn vm vb h hok hN he h9
  exact apply_ko w H hm Ls p G N e vt vn vm vb h hok hN he ⟨h1, h2, h3, h4, h5, h6, h7, h8, h9⟩

theorem ApplyPost.below {w w1 : World} {H hm : Nat} {Ls : List PLed} {G : Nat → Nat → Prop} {ev : PEv} {e : Ending} {w' : World} (hb : Below w.heap.size w w1) (h : ApplyPost w1 H hm Ls G ev e w') : ApplyPost w H hm Ls G ev e w' := by
  obtain ⟨v, p', G', h1, h2, h3, h4⟩ := h
  exact ⟨v, p', G', h1, h2, h3, (Framed.ofBelow hb (Nat.le_refl _)).trans h4⟩

set_option maxRecDepth 20000 in
set_option maxHeartbeats 2000000 in
theorem zapply_any (Fi : Interp) (w : World) (H hm : Nat) (Ls : List PLed) (p : Nat → Nat) (G : Nat → Nat → Prop) (N : Nat) (e : PEv) (vt vn vm vb : Value) (hFi : Fi.answers w.tape) (h : HubAt w 9 H hm Ls p G) (hok : AllOk Ls N) (hN : N < 4096) (he : e.Ok) (hev : EvOk w (hfoot H hm Ls.length G) e vt vn vm vb) :
    Calls Tryf.prog 12 #[.pointer (some ⟨H, 0, none⟩), .int .i64 e.kind, .string e.oly, .int .i64 e.at_, .string e.team, vt, .int .i64 e.task, .string e.comp, .bool e.force, .int .i64 e.sub, .int .i64 e.res, vn, vm, .int .i64 e.left, .bool e.frozen, vb, .int .i64 e.off, .int .i64 e.size] w (ApplyPost w H hm Ls G e) := by
  obtain ⟨ta, tl, tc, rfl⟩ := hev.by_.form
  obtain ⟨na, nl, nc, rfl⟩ := hev.fn
  obtain ⟨ma, ml, mc, rfl⟩ := hev.fm
  obtain ⟨ba, bl, bc, rfl⟩ := hev.fb
  have hadd := add_any 0 0 e.at_ w (by omega) (by omega) (by omega) (by omega) he.at_.1 he.at_.2
  have HFI : Hid (Fi.answers w.tape) := hFi
  have HH : Hid (HubAt w 9 H hm Ls p G) := h
  have HOK : Hid (AllOk Ls N) := hok
  have HE : Hid e.Ok := he
  have HEV : Hid _ := hev
  unfold tm at hadd
  clear hFi h hok he hev
  go_enter Tryf.func12, Tryf.ntmps12
  go_wp2_with fail
  refine hadd.mono ?_
  rintro e1 w1 ⟨n', s', rfl, h0, h1, h2, hb⟩
  obtain ⟨rfl, rfl⟩ := ns_unique (s := s') h0 h1 (x := e.at_) (by omega)
  have hb2 : Below w.heap.size w (w1.alloc (.cells (evC e (.slice ta tl tc) (.slice na nl nc) (.slice ma ml mc)) 97)) := hb.alloc (by have := hb.size; omega) _
  have hcall := apply_any Fi (w1.alloc (.cells (evC e (.slice ta tl tc) (.slice na nl nc) (.slice ma ml mc)) 97)) H hm Ls p G N e (.slice ta tl tc) (.slice na nl nc) (.slice ma ml mc) (.slice ba bl bc) (by rw [hb2.tape]; exact HFI.out) (HH.out.below hb2) HOK.out hN HE.out (HEV.out.below hb2)
  have HB2 : Hid _ := hb2
  clear hb hb2 h0 h1 h2 hadd
  unfold tm
  unfold evC recC at hcall
  go_wp2_with fail
  refine hcall.mono ?_
  rintro e2 w2 hpost
  obtain ⟨v, p2, G2, rfl, h2, h3, h4⟩ := hpost
  have HP : Hid _ := (⟨v, p2, G2, rfl, h2, h3, h4⟩ : ApplyPost _ H hm Ls G e (.returned v) w2)
  clear h2 h3 h4 hcall
  go_wp2
  go_ret
  exact ApplyPost.below HB2.out HP.out

/-- What zzApplyOne returns. -/
def OnePost (w : World) (H hm : Nat) (Ls : List PLed) (G : Nat → Nat → Prop) (ev : PEv) (e : Ending) (w' : World) : Prop :=
  ∃ b p' G', e = .returned (.bool b) ∧ b = refAll Ls ev ∧ HubAt w' 9 H hm (stepAll Ls ev) p' G' ∧ Framed w (hfoot H hm Ls.length G) w' (hfoot H hm (stepAll Ls ev).length G')

set_option maxRecDepth 20000 in
set_option maxHeartbeats 2000000 in
theorem one_any (Fi : Interp) (w : World) (H hm : Nat) (Ls : List PLed) (p : Nat → Nat) (G : Nat → Nat → Prop) (N : Nat) (e : PEv) (vt vn vm vb : Value) (hFi : Fi.answers w.tape) (h : HubAt w 9 H hm Ls p G) (hok : AllOk Ls N) (hN : N < 4096) (he : e.Ok) (hev : EvOk w (hfoot H hm Ls.length G) e vt vn vm vb) :
    Calls Tryf.prog 7 #[.pointer (some ⟨H, 0, none⟩), .agg (evA e vt vn vm vb)] w (OnePost w H hm Ls G e) := by
  obtain ⟨ta, tl, tc, rfl⟩ := hev.by_.form
  obtain ⟨na, nl, nc, rfl⟩ := hev.fn
  obtain ⟨ma, ml, mc, rfl⟩ := hev.fm
  obtain ⟨ba, bl, bc, rfl⟩ := hev.fb
  have hb : Below w.heap.size w (w.alloc (.cells (evA e (.slice ta tl tc) (.slice na nl nc) (.slice ma ml mc) (.slice ba bl bc)) 32)) := (Below.refl _ _).alloc (Nat.le_refl _) _
  have hcall := zapply_any Fi (w.alloc (.cells (evA e (.slice ta tl tc) (.slice na nl nc) (.slice ma ml mc) (.slice ba bl bc)) 32)) H hm Ls p G N e (.slice ta tl tc) (.slice na nl nc) (.slice ma ml mc) (.slice ba bl bc) (by rw [hb.tape]; exact hFi) (h.below hb) hok hN he (hev.below hb)
  have HB : Hid _ := hb
  clear h hok he hev hFi hb
  unfold evA at *
  go_enter Tryf.func7, Tryf.ntmps7
  go_wp2_with fail
  refine hcall.mono ?_
  rintro e2 w2 ⟨v, p2, G2, rfl, h2, h3, h4⟩
  have H3 : Hid _ := h3
  have H4 : Hid _ := h4
  unfold RetErr at h2
  cases hrf : refAll Ls e
  · rw [hrf, if_neg (by decide)] at h2
    subst h2
    have HRF : Hid _ := hrf
    clear h3 h4 hcall hrf
    go_wp2
    go_ret
    exact ⟨false, p2, G2, rfl, HRF.out.symm, H3.out, (Framed.ofBelow HB.out (Nat.le_refl _)).trans H4.out⟩
  · rw [hrf, if_pos rfl] at h2
    obtain ⟨q, rfl⟩ := h2
    have HRF : Hid _ := hrf
    clear h3 h4 hcall hrf
    go_wp2
    go_ret
    exact ⟨true, p2, G2, rfl, HRF.out.symm, H3.out, (Framed.ofBelow HB.out (Nat.le_refl _)).trans H4.out⟩
end Go.Proofs.Qxb6616853aFmt
