import Derived.Test.Qxb6616853aStr
import Derived.Deep.CutRange
namespace Go.Proofs.Qxb6616853a
open Go.RowKit

def LawPost (w : World) (e : Ending) (w' : World) : Prop := e = .returned (.bool true) ∧ Below w.heap.size w w'

/-- A slot that holds a slice of the strings S. -/
def IsSlot (B : Nat) (w : World) (len : Nat) (S : Nat → ByteArray) (v : Value) (wc : World) : Prop :=
  ∃ a c, v = .slice a len c ∧ IsStrs wc a len c S ∧ Below B w wc

set_option maxRecDepth 20000 in
set_option maxHeartbeats 4000000 in
theorem hcLaw (a0 : Option Addr) (len0 cap0 : Nat) (S0 : Nat → ByteArray) (a1 : Option Addr) (len1 cap1 : Nat) (S1 : Nat → ByteArray) (k : Int) (s3 s4 s5 : ByteArray) (w : World)
    (hs0 : IsStrs w a0 len0 cap0 S0) (hs1 : IsStrs w a1 len1 cap1 S1) (z3 : s3.size ≤ maxLen) (z4 : s4.size ≤ maxLen) (z5 : s5.size ≤ maxLen) :
    Calls Try.prog 7 #[.slice a0 len0 cap0, .slice a1 len1 cap1, .int .i64 k, .string s3, .string s4, .string s5] w (LawPost w) := by
  have hl0 := hs0.1
  have hm0 := hs0.2.1
  have hl1 := hs1.1
  have hm1 := hs1.2.1
  have hzb := zzBytes_hc a0 len0 cap0 S0 a1 len1 cap1 S1 k s3 s4 s5 w hs0 hs1 z3 z4 z5
  have q27 : ∀ (w : World) (a : Option Addr) (n c n' c' : Nat), (binOp .neq 27 (.slice a n c) (.slice none n' c')).run Try.prog w = .ok (.bool (!a.isNone)) w := fun w a n c n' c' => run_neq_slice_nil_any w _ _ a n c n' c' Try.underlying27
  unfold maxLen at z3 z4 z5 hm0 hm1
  go_enter Try.func7, Try.ntmps7
  go_wp2_with fail
  refine hzb.mono ?_
  rintro e w' ⟨b, rfl, hw⟩
  obtain rfl := hw
  cases b
  · go_wp2
    go_ret
    exact ⟨rfl, Below.refl _ _⟩
  clear hzb
  go_wp2_with fail
  all_goals (try (go_ret; exact ⟨rfl, Below.refl _ _⟩))
  refine (compilersFit_any a0 len0 cap0 S0 a1 len1 cap1 S1 _ _ hs0 hs1 (by omega) (by omega)).mono ?_
  rintro e w' ⟨b, rfl, hw⟩
  obtain rfl := hw
  cases b
  · go_wp2
    go_ret
    exact ⟨rfl, Below.refl _ _⟩
  have hsmall : len0 ≤ 65536 := by omega
  by_cases hne : len1 = len0
  case neg =>
    have hne' : ((len1 : Int) != (len0 : Int)) = true := by simp; omega
    go_wp2
    go_ret
    exact ⟨rfl, Below.refl _ _⟩
  subst hne
  by_cases hk0 : 0 ≤ k
  case neg =>
    go_wp2
    go_ret
    exact ⟨rfl, Below.refl _ _⟩
  by_cases hk1 : k ≤ len1
  case neg =>
    go_wp2
    go_ret
    exact ⟨rfl, Below.refl _ _⟩
  obtain ⟨k, rfl⟩ := Int.eq_ofNat_of_zero_le hk0
  clear hk0
  obtain ⟨i0, hi, hz0, hz1, hz2⟩ := info_parts info9
  have hmk : ∀ w, (Instr.makeSlice 27 (.int .i64 (len1 : Int)) (.int .i64 (len1 : Int))).run Try.prog w = .ok (.slice (some ⟨w.heap.size, 0, none⟩) len1 len1) (w.alloc (.cells (madeCells #[.string ByteArray.empty] len1) 9)) := by
    intro w
    have := run_make w 27 9 i0 _ Try.underlying27 hi hz0 .i64 .i64 (len1 : Int) (len1 : Int) (by omega) (by omega) (by rw [hz2]; omega) (by omega)
    rw [hz1] at this
    simpa [Value.cells] using this
  have hsS0 := hs0.2.2.1
  have hsS1 := hs1.2.2.1
  go_upto_if 78 with fail
  go_cut [0] from 19 (fun v wc => IsSlot w'.heap.size w' len1 S0 v wc)
  case first =>
    cases a0 with
    | none =>
      go_wp2
      go_meet
      case rel => exact ⟨none, cap0, rfl, hs0, Below.refl _ _⟩
    | some ad =>
      go_wp2_with (refine wpList_copy_splice rfl (.tmp 82) (.tmp 83) 27 27 rfl 9 Try.underlying27 (by kernel_rfl) _ _ _ _ _ _ rfl rfl w'.heap.size 0 (madeCells #[.string ByteArray.empty] len1).toList 9 (Blk.new _ _ _) (strF 0 len1 S0) ?_ ?_ ?_ (strF_oneCell _ _ _) w'.heap.size w' ((Below.refl _ _).alloc (Nat.le_refl _) _) (Nat.le_refl _) ?_)
      · rw [strF_length]; exact (Nat.min_self _).symm
      · intro _ j v hj
        exact (hs0.below ((Below.refl _ _).alloc (Nat.le_refl _) _) (Nat.le_refl _)).cells 0 len1 (by omega) (ao := some ad) (fun b off ha _ => by simpa using ha) ad rfl j v hj
      · simp [strF_length, size_madeCells]
      · intro w1 hg hb
        go_wp2
        go_meet
        case rel => exact ⟨some ⟨w'.heap.size, 0, none⟩, len1, rfl, IsStrs.ofBlk (L := splice (madeCells #[.string ByteArray.empty] len1).toList 0 (strF 0 len1 S0)) hg.out (Nat.le_refl _) (by unfold maxLen; omega) hsS0 (fun i hi => by rw [splice0_get (by rw [strF_length]; exact hi), strF_get hi, Nat.zero_add]), hb⟩
  case rest =>
  obtain ⟨a, c, rfl, hs0', hbel⟩ := hcut
  have hs1' := hs1.below hbel (Nat.le_refl _)
  clear hs0 hs1
  go_upto_if 87 with fail
  go_cut [1] from 19 (fun v wd => IsSlot wc.heap.size wc len1 S1 v wd)
  case first =>
    cases a1 with
    | none =>
      go_wp2
      go_meet
      case rel => exact ⟨none, cap1, rfl, hs1', Below.refl _ _⟩
    | some ad =>
      go_wp2_with (refine wpList_copy_splice rfl (.tmp 91) (.tmp 92) 27 27 rfl 9 Try.underlying27 (by kernel_rfl) _ _ _ _ _ _ rfl rfl wc.heap.size 0 (madeCells #[.string ByteArray.empty] len1).toList 9 (Blk.new _ _ _) (strF 0 len1 S1) ?_ ?_ ?_ (strF_oneCell _ _ _) wc.heap.size wc ((Below.refl _ _).alloc (Nat.le_refl _) _) (Nat.le_refl _) ?_)
      · rw [strF_length]; exact (Nat.min_self _).symm
      · intro _ j v hj
        exact (hs1'.below ((Below.refl _ _).alloc (Nat.le_refl _) _) (Nat.le_refl _)).cells 0 len1 (by omega) (ao := some ad) (fun b off ha _ => by simpa using ha) ad rfl j v hj
      · simp [strF_length, size_madeCells]
      · intro w1 hg hb
        go_wp2
        go_meet
        case rel => exact ⟨some ⟨wc.heap.size, 0, none⟩, len1, rfl, IsStrs.ofBlk (L := splice (madeCells #[.string ByteArray.empty] len1).toList 0 (strF 0 len1 S1)) hg.out (Nat.le_refl _) (by unfold maxLen; omega) hsS1 (fun i hi => by rw [splice0_get (by rw [strF_length]; exact hi), strF_get hi, Nat.zero_add]), hb⟩
  case rest =>
  rename World => we
  obtain ⟨a', c', rfl, hs1, hbel'⟩ := hcut
  have hs0 := hs0'.below hbel' (Nat.le_refl _)
  have hball : Below w'.heap.size w' we := hbel.trans (hbel'.mono hbel.size)
  clear hs0' hs1' hbel hbel' hmk q27
  have hk2 : k ≤ len1 := by omega
  have hkc : (k : Int) ≤ (c : Int) := by have := hs0.1; omega
  have hkc' : (k : Int) ≤ (c' : Int) := by have := hs1.1; omega
  go_upto_region 18 with (refine wpList_make_own _ rfl (.const (.int .i64 0)) (.tmp 97) 27 rfl we.heap.size 9 i0 _ 1 Try.underlying27 hi hz0 hz1 .i64 .i64 _ (len1 + 1) rfl rfl (by omega) (by rw [hz2]; omega) (by unfold maxLen; omega) (Nat.le_refl _) ?_; intro w1 hown1 hgrow1)
  have hb1 : Below we.heap.size we w1 := (Below.refl _ _).grown hgrow1 (Nat.le_refl _) (by simp)
  have hs0a := hs0.below hb1 (Nat.le_refl _)
  go_upto_region 19 with (at_builtin; refine wpList_append_fits_any _ rfl (.tmp 99) (.tmp 102) 27 rfl we.heap.size 9 i0 1 Try.underlying27 hi hz1 we.heap.size 0 (len1 + 1) [] rfl hown1 _ k _ (strF 0 k S0) rfl (by rw [strF_length, Nat.mul_one]) (fun h => by have := hs0.2.2.2.1 h; omega) (hs0a.cells 0 k (by omega) (fun b off ha _ => by simpa using ha)) (strF_oneCell _ _ _) (by omega) ?_; intro w2 hown2 hgrow2; simp only [Nat.zero_add, List.nil_append] at hown2)
  have hb2 : Below we.heap.size we w2 := hb1.grown hgrow2 hb1.size (by rintro x ⟨⟩; exact Nat.le_refl _)
  clear hown1 hgrow1 hgrow2
  go_upto_region 20 with (at_builtin; refine wpList_append_fits _ rfl (.tmp 104) (.tmp 106) 27 rfl we.heap.size 9 i0 1 Try.underlying27 hi hz1 we.heap.size k (len1 + 1) (strF 0 k S0) rfl (hown2.alloc _) ⟨w2.heap.size, 0, none⟩ 1 1 [.string s3] rfl rfl (fun j u hj => by rcases j with _ | j <;> simp at hj; subst hj; simp [Addr.add]) (by simp [Value.oneCell']) (by omega) ?_; intro w3 hown3 hgrow3)
  have hb3 : Below we.heap.size we w3 := (hb2.alloc hb2.size (.cells #[.string s3] 9)).grown hgrow3 (by have := hb2.size; simp; omega) (by rintro x ⟨⟩; exact Nat.le_refl _)
  have hs0b := hs0.below hb3 (Nat.le_refl _)
  clear hown2 hgrow3 hs0a
  go_cut [15] from 19 (fun v wx => InsSlot we len1 k s3 S0 v wx)
  case first =>
    by_cases hck : c = k
    · subst hck
      go_wp2_with (at_builtin; refine wpList_append_fits_any _ rfl (.tmp 108) (.tmp 111) 27 rfl we.heap.size 9 i0 1 Try.underlying27 hi hz1 we.heap.size (c + 1) (len1 + 1) _ rfl hown3 _ (len1 - c) _ (strF c (len1 - c) S0) rfl (by rw [strF_length, Nat.mul_one]) (fun h => by have := hs0.whole_none (k := c) h; omega) (hs0b.cells c (len1 - c) (by omega) (fun b off ha hne => absurd rfl hne)) (strF_oneCell _ _ _) (by omega) ?_; intro w4 hown4 hgrow4)
      go_meet
      case rel => exact InsSlot.mk (by omega) hown4 (hb3.grown hgrow4 hb3.size (by rintro x ⟨⟩; exact Nat.le_refl _))
    · go_wp2_with (at_builtin; refine wpList_append_fits_any _ rfl (.tmp 108) (.tmp 111) 27 rfl we.heap.size 9 i0 1 Try.underlying27 hi hz1 we.heap.size (k + 1) (len1 + 1) _ rfl hown3 _ (len1 - k) _ (strF k (len1 - k) S0) rfl (by rw [strF_length, Nat.mul_one]) (fun h => hs0.tail_none h) (hs0b.cells k (len1 - k) (by omega) (fun b off ha hne => by rw [ha]; simp [Addr.add_lit])) (strF_oneCell _ _ _) (by omega) ?_; intro w4 hown4 hgrow4)
      go_meet
      case rel => exact InsSlot.mk (by omega) hown4 (hb3.grown hgrow4 hb3.size (by rintro x ⟨⟩; exact Nat.le_refl _))
  case rest =>
  rename World => wf
  obtain ⟨rfl, hS2f, hbf⟩ := hcut
  have hS2 := hS2f (by unfold maxLen; omega) hsS0 (by unfold maxLen; omega)
  have hs0 := hs0.below hbf (Nat.le_refl _)
  have hs1 := hs1.below hbf (Nat.le_refl _)
  have hball : Below w'.heap.size w' wf := hball.trans (hbf.mono hball.size)
  clear hS2f hbf hown3 hb3 hs0b hb2 hb1
  go_upto_region 22 with (refine wpList_make_own _ rfl (.const (.int .i64 0)) (.tmp 115) 27 rfl wf.heap.size 9 i0 _ 1 Try.underlying27 hi hz0 hz1 .i64 .i64 _ (len1 + 1) rfl rfl (by omega) (by rw [hz2]; omega) (by unfold maxLen; omega) (Nat.le_refl _) ?_; intro w1 hown1 hgrow1)
  have hb1 : Below wf.heap.size wf w1 := (Below.refl _ _).grown hgrow1 (Nat.le_refl _) (by simp)
  have hs1a := hs1.below hb1 (Nat.le_refl _)
  go_upto_region 23 with (at_builtin; refine wpList_append_fits_any _ rfl (.tmp 117) (.tmp 120) 27 rfl wf.heap.size 9 i0 1 Try.underlying27 hi hz1 wf.heap.size 0 (len1 + 1) [] rfl hown1 _ k _ (strF 0 k S1) rfl (by rw [strF_length, Nat.mul_one]) (fun h => by have := hs1.2.2.2.1 h; omega) (hs1a.cells 0 k (by omega) (fun b off ha _ => by simpa using ha)) (strF_oneCell _ _ _) (by omega) ?_; intro w2 hown2 hgrow2; simp only [Nat.zero_add, List.nil_append] at hown2)
  have hb2 : Below wf.heap.size wf w2 := hb1.grown hgrow2 hb1.size (by rintro x ⟨⟩; exact Nat.le_refl _)
  clear hown1 hgrow1 hgrow2
  go_upto_region 24 with (at_builtin; refine wpList_append_fits _ rfl (.tmp 122) (.tmp 124) 27 rfl wf.heap.size 9 i0 1 Try.underlying27 hi hz1 wf.heap.size k (len1 + 1) (strF 0 k S1) rfl (hown2.alloc _) ⟨w2.heap.size, 0, none⟩ 1 1 [.string s4] rfl rfl (fun j u hj => by rcases j with _ | j <;> simp at hj; subst hj; simp [Addr.add]) (by simp [Value.oneCell']) (by omega) ?_; intro w3 hown3 hgrow3)
  have hb3 : Below wf.heap.size wf w3 := (hb2.alloc hb2.size (.cells #[.string s4] 9)).grown hgrow3 (by have := hb2.size; simp; omega) (by rintro x ⟨⟩; exact Nat.le_refl _)
  have hs1b := hs1.below hb3 (Nat.le_refl _)
  clear hown2 hgrow3 hs1a
  go_cut [16] from 19 (fun v wx => InsSlot wf len1 k s4 S1 v wx)
  case first =>
    by_cases hck : c' = k
    · subst hck
      go_wp2_with (at_builtin; refine wpList_append_fits_any _ rfl (.tmp 126) (.tmp 129) 27 rfl wf.heap.size 9 i0 1 Try.underlying27 hi hz1 wf.heap.size (c' + 1) (len1 + 1) _ rfl hown3 _ (len1 - c') _ (strF c' (len1 - c') S1) rfl (by rw [strF_length, Nat.mul_one]) (fun h => by have := hs1.whole_none (k := c') h; omega) (hs1b.cells c' (len1 - c') (by omega) (fun b off ha hne => absurd rfl hne)) (strF_oneCell _ _ _) (by omega) ?_; intro w4 hown4 hgrow4)
      go_meet
      case rel => exact InsSlot.mk (by omega) hown4 (hb3.grown hgrow4 hb3.size (by rintro x ⟨⟩; exact Nat.le_refl _))
    · go_wp2_with (at_builtin; refine wpList_append_fits_any _ rfl (.tmp 126) (.tmp 129) 27 rfl wf.heap.size 9 i0 1 Try.underlying27 hi hz1 wf.heap.size (k + 1) (len1 + 1) _ rfl hown3 _ (len1 - k) _ (strF k (len1 - k) S1) rfl (by rw [strF_length, Nat.mul_one]) (fun h => hs1.tail_none h) (hs1b.cells k (len1 - k) (by omega) (fun b off ha hne => by rw [ha]; simp [Addr.add_lit])) (strF_oneCell _ _ _) (by omega) ?_; intro w4 hown4 hgrow4)
      go_meet
      case rel => exact InsSlot.mk (by omega) hown4 (hb3.grown hgrow4 hb3.size (by rintro x ⟨⟩; exact Nat.le_refl _))
  case rest =>
  rename World => wg
  obtain ⟨rfl, hS3f, hbg⟩ := hcut
  have hS3 := hS3f (by unfold maxLen; omega) hsS1 (by unfold maxLen; omega)
  have hs0 := hs0.below hbg (Nat.le_refl _)
  have hs1 := hs1.below hbg (Nat.le_refl _)
  have hS2 := hS2.below hbg (Nat.le_refl _)
  have hball : Below w'.heap.size w' wg := hball.trans (hbg.mono hball.size)
  clear hS3f hbg hown3 hb3 hs1b hb2 hb1
  have hself : hasB (len1 + 1) (insS k s3 S0) s3 = true := by rw [show len1 + 1 = k + 1 + (len1 - k) by omega, hasB_ins, eqS_self, Bool.or_true]
  have hq : Hid (hasB (len1 + 1) (insS k s3 S0) s5 = (hasB len1 S0 s5 || eqS s5 s3)) := by
    show _ = _
    rw [show len1 + 1 = k + 1 + (len1 - k) by omega, hasB_ins, eqS_comm s3 s5, show k + (len1 - k) = len1 by omega]
  go_wp2_with fail
  refine (newOly_any _ _ _ S0 _ _ S1 _ hs0 hs1 (by omega)).mono ?_
  rintro e wh ⟨g1, rfl, ho1, hbh⟩
  have hS2 := hS2.below hbh (Nat.le_refl _)
  have hS3 := hS3.below hbh (Nat.le_refl _)
  have hball : Below w'.heap.size w' wh := hball.trans (hbh.mono hball.size)
  clear hs0 hs1 hbh
  go_wp2_with fail
  refine (newOly_any _ _ _ (insS k s3 S0) _ _ (insS k s4 S1) _ hS2 hS3 (by omega)).mono ?_
  rintro e wi ⟨g2, rfl, ho2, hbi⟩
  have ho1 := ho1.below hbi (Nat.le_refl _)
  have hball : Below w'.heap.size w' wi := hball.trans (hbi.mono hball.size)
  clear hS2 hS3 hbi
  go_wp2_with fail
  refine (zzHas_any g2 _ _ s3 _ (by omega) ho2).mono ?_
  rintro e wj ⟨rfl, hbj⟩
  rw [hself]
  have ho1 := ho1.below hbj (Nat.le_refl _)
  have ho2 := ho2.below hbj (Nat.le_refl _)
  have hball : Below w'.heap.size w' wj := hball.trans (hbj.mono hball.size)
  clear hbj hself
  go_wp2_with fail
  refine (zzHas_any g2 _ _ s5 _ (by omega) ho2).mono ?_
  rintro e wk ⟨rfl, hbk⟩
  have ho1 := ho1.below hbk (Nat.le_refl _)
  have hball : Below w'.heap.size w' wk := hball.trans (hbk.mono hball.size)
  clear hbk
  rw [hq.out]
  clear hq
  go_wp2_with fail
  refine (zzHas_any g1 _ _ s5 _ (by omega) ho1).mono ?_
  rintro e wl ⟨rfl, hbl⟩
  have hball : Below w'.heap.size w' wl := hball.trans (hbl.mono hball.size)
  clear hbl
  unfold eqS
  generalize hasB len1 S0 s5 = b1
  cases b1
  · go_wp2
    go_ret
    exact ⟨by simp, hball⟩
  · go_wp2
    go_ret
    exact ⟨by simp, hball⟩
end Go.Proofs.Qxb6616853a
