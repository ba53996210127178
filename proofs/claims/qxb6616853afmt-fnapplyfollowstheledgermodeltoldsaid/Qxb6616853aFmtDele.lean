import Derived.Test.Qxb6616853aFmtSrch
import Derived.Deep.RegionLaw
namespace Go.Proofs.Qxb6616853aFmt
open Go.RowKit
attribute [local go_sem ↓] Go.wp_at_zero Go.wp_at_succ

theorem Blk.setCellsAt {g : Nat} {t : TypeId} : ∀ (vs : List Value) (o : Nat) (w : World) (C : Array Value), Blk w g C t → ∃ C', Blk (w.setCells g o vs) g C' t ∧ C'.size = C.size ∧ (∀ m, m < o → C'[m]? = C[m]?) ∧ (∀ j v, vs[j]? = some v → o + j < C.size → C'[o + j]? = some v) ∧ ∀ m, o + vs.length ≤ m → C'[m]? = C[m]?
  | [], _, _, C, h => ⟨C, h, rfl, fun _ _ => rfl, fun j v hj => by simp at hj, fun _ _ => rfl⟩
  | v :: vs, o, w, C, h => by
    obtain ⟨C', h1, h2, h3, h4, h5⟩ := Blk.setCellsAt vs (o + 1) (w.setCell ⟨g, o, none⟩ v) _ (h.set o v)
    refine ⟨C', h1, by simpa using h2, fun m hm => ?_, fun j u hj hlt => ?_, fun m hm => ?_⟩
    · rw [h3 m (by omega), Array.getElem?_setIfInBounds_ne (by omega)]
    · rcases j with _ | j
      · simp at hj
        subst hj
        rw [Nat.add_zero, h3 o (by omega), Array.getElem?_setIfInBounds_self_of_lt (by omega)]
      · rw [List.getElem?_cons_succ] at hj
        rw [show o + (j + 1) = o + 1 + j by omega]
        exact h4 j u hj (by simp; omega)
    · rw [List.length_cons] at hm
      rw [h5 m (by omega), Array.getElem?_setIfInBounds_ne (by omega)]

theorem infoF110 : (Tryf.prog.info? 110).map (fun i => (i.zero, i.size, i.bytes)) = some (some (.pointer none), 1, 8) := by kernel_rfl

/-- slices.Delete(s, i, i+1). -/
def DeleAtPost (g cap n : Nat) (xs : List Value) (i : Nat) (w : World) (e : Ending) (w' : World) : Prop :=
  e = .returned (.slice (some ⟨g, 0, none⟩) (n - 1) cap) ∧ w'.ownsRow 0 110 1 (.slice (some ⟨g, 0, none⟩) (n - 1) cap) (n - 1) (xs.eraseIdx i) ∧ w.grownBy w' (some g)

set_option maxHeartbeats 2000000 in
set_option maxRecDepth 20000 in
theorem deleAt_any (g cap n : Nat) (xs : List Value) (i : Nat) (w : World) (hn : n ≤ 4096) (hi : i < n) (hown : w.ownsRow 0 110 1 (.slice (some ⟨g, 0, none⟩) n cap) n xs) (h1c : ∀ u ∈ xs, u.oneCell' = true) :
    Calls Tryf.prog 58 #[.slice (some ⟨g, 0, none⟩) n cap, .int .i64 i, .int .i64 ((i : Int) + 1)] w (DeleAtPost g cap n xs i w) := by
  obtain ⟨i0, hi0, hz0, hz1, hz2⟩ := info_parts infoF110
  obtain ⟨cur, hb, hnc, hcm, hcs, htk⟩ := ownsRow_parts hown
  have hxl : xs.length = n := by
    rw [← htk, List.length_take]
    simp
    omega
  have hcx : ∀ m v, xs[m]? = some v → cur[m]? = some v := fun m v hv => by
    have hm := (List.getElem?_eq_some_iff.1 hv).1
    rw [← htk, List.getElem?_take, if_pos (by omega)] at hv
    simpa using hv
  obtain ⟨news, hnews⟩ : ∃ news, news = xs.drop (i + 1) := ⟨_, rfl⟩
  have hlen : news.length = n - (i + 1) := by rw [hnews, List.length_drop, hxl]
  obtain ⟨A, hA, hsrc⟩ : ∃ A : Addr, (if cap = i + 1 then some (⟨g, 0, none⟩ : Addr) else some ⟨g, i + 1, none⟩) = some A ∧ Hid (∀ t u, news[t]? = some u → w.drew.cell? (A.add t) = some u) := by
    by_cases h : cap = i + 1
    · refine ⟨⟨g, 0, none⟩, by simp [h], fun t u hu => ?_⟩
      have h0 : news.length = 0 := by rw [hlen]; omega
      rw [List.length_eq_zero_iff.1 h0] at hu
      simp at hu
    · refine ⟨⟨g, i + 1, none⟩, by simp [h], fun t u hu => ?_⟩
      rw [hnews, List.getElem?_drop] at hu
      rw [Addr.add_lit]
      exact (hb.cell (i + 1 + t)).trans (hcx _ _ hu)
  have s1 : Hid (news.length = (n - (i + 1)) * 1) := by rw [Nat.mul_one]; exact hlen
  have s2 : Hid (∀ u ∈ news, u.oneCell' = true) := by
    intro u hu
    rw [hnews] at hu
    exact h1c u (List.mem_of_mem_drop hu)
  have s3 : Hid (∀ t, t < news.length → (w.drew.cell? ⟨g, 0 + i * 1 + t, none⟩).isSome = true ∧ w.drew.frozen? ⟨g, 0 + i * 1 + t, none⟩ = false) := by
    intro t ht
    rw [hlen] at ht
    refine ⟨?_, hb.frozen _⟩
    show (w.cell? _).isSome = true
    rw [hb.cell]
    simp
    omega
  obtain ⟨W1, hW1⟩ : ∃ W1, W1 = w.drew.setCells g (0 + i * 1) news := ⟨_, rfl⟩
  have hW : Hid (W1 = w.drew.setCells g (0 + i * 1) news) := hW1
  obtain ⟨C1, k1, k2, k3, k4, k5⟩ := Blk.setCellsAt news (0 + i * 1) w.drew cur hb.drew
  rw [← hW1] at k1
  have hcl : ∀ ty, (Builtin.clear_ #[102] ty #[.slice (some ⟨g, i + (n - (i + 1)), none⟩) (n - (i + (n - (i + 1)))) (cap - (i + (n - (i + 1))))]).run Tryf.prog W1 = .ok (.tuple #[]) (W1.setCells g (i + (n - (i + 1))) (List.replicate (n - (i + (n - (i + 1)))) (.pointer none))) :=
    fun ty => Lib.run_clear_slice W1 102 110 ty (.pointer none) Tryf.underlying102 zero70 rfl rfl g _ _ _ (by omega) (fun m hm => by rw [k1.cell]; simp; omega) (fun m hm => k1.frozen _)
  obtain ⟨C2, j1, j2, j3, j4, j5⟩ := Blk.setCellsAt (List.replicate (n - (i + (n - (i + 1)))) (.pointer none)) (i + (n - (i + 1))) W1 C1 k1
  have FIN : (W1.setCells g (i + (n - (i + 1))) (List.replicate (n - (i + (n - (i + 1)))) (.pointer none))).ownsRow 0 110 1 (.slice (some ⟨g, 0, none⟩) (n - 1) cap) (n - 1) (xs.eraseIdx i) := by
    refine ⟨by rw [List.length_eraseIdx]; simp [hxl, hi], Or.inr ⟨g, cap, C2, rfl, Nat.zero_le _, j1, by omega, hcm, by omega, ?_⟩⟩
    apply List.ext_getElem?
    intro m
    rw [Nat.mul_one, List.getElem?_take, List.getElem?_eraseIdx]
    by_cases hm : m < n - 1
    · rw [if_pos hm]
      have e1 : C2[m]? = C1[m]? := j3 m (by omega)
      rw [Array.getElem?_toList, e1]
      by_cases hmi : m < i
      · rw [if_pos hmi, k3 m (by omega)]
        obtain ⟨v, hv⟩ : ∃ v, xs[m]? = some v := ⟨_, List.getElem?_eq_getElem (by omega)⟩
        rw [hv]
        exact hcx m v hv
      · rw [if_neg hmi]
        obtain ⟨v, hv⟩ : ∃ v, xs[m + 1]? = some v := ⟨_, List.getElem?_eq_getElem (by omega)⟩
        rw [hv]
        have := k4 (m - i) v (by rw [hnews, List.getElem?_drop, show i + 1 + (m - i) = m + 1 by omega]; exact hv) (by omega)
        rw [show 0 + i * 1 + (m - i) = m by omega] at this
        exact this
    · rw [if_neg hm, if_neg (by omega), List.getElem?_eq_none (by omega)]
  have GRW : w.grownBy (W1.setCells g (i + (n - (i + 1))) (List.replicate (n - (i + (n - (i + 1)))) (.pointer none))) (some g) := by
    rw [hW1]
    exact grownBy_setCells (grownBy_setCells ((⟨rfl, rfl, rfl, rfl⟩ : Quiet w w.drew).grown _) _ _) _ _
  have HF : Hid _ := FIN
  have HG : Hid _ := GRW
  have hic : i ≤ cap := by omega
  have hjc : i + 1 ≤ cap := by omega
  have hm63 : cap ≤ 9223372036854775807 := by unfold maxLen at hcm; omega
  have h0i : (0 : Int) ≤ (i : Int) + 1 := by omega
  have h1i : (i : Int) + 1 ≤ (n : Int) := by omega
  clear hW1 FIN GRW k1 k2 k3 k4 k5 j1 j2 j3 j4 j5 hcx htk hcs hcm hnews hlen hown h1c hb hxl hz0 hz2
  go_enter Tryf.func58, Tryf.ntmps58
  go_wp2_with fail
  go_region_law (refine step_append_room rfl (.tmp 22) (.tmp 25) 102 rfl 110 i0 1 Tryf.underlying102 hi0 hz1 g 0 i cap (by simp [Act.eval, Act.put]) A (n - (i + 1)) (cap - (i + 1)) news (by simp [Act.eval, Act.put]) s1.out hsrc.out s2.out (by omega) s3.out ?_; rw [← hW.out])
  go_wp2
  go_ret
  have e : i + (n - (i + 1)) = n - 1 := by omega
  have HO := HF.out
  have HP := HG.out
  exact ⟨by rw [e]; rfl, HO, HP⟩
end Go.Proofs.Qxb6616853aFmt
