import Derived.Test.Qxb6616853aFmtDisq
namespace Go.Proofs.Qxb6616853aFmt
open Go.RowKit
attribute [local go_sem ↓] Go.wp_at_zero Go.wp_at_succ

theorem isNaN_any (a : Int) (w : World) : Calls Tryf.prog 65 #[.int .i64 a] w fun e w' => e = .returned (.bool false) ∧ w' = w := by
  go_enter Tryf.func65, Tryf.ntmps65
  go_wp2
  go_ret
  exact ⟨by simp, rfl⟩

/-- cmp.Compare. -/
def cmpI (a b : Int) : Int := if a < b then -1 else if b < a then 1 else 0

theorem ret_i64 {a b : Int} (h : a = b) : Ending.returned (.int .i64 a) = .returned (.int .i64 b) := by rw [h]

theorem compare_any (a b : Int) (w : World) : Calls Tryf.prog 64 #[.int .i64 a, .int .i64 b] w fun e w' => e = .returned (.int .i64 (cmpI a b)) ∧ w' = w := by
  rcases Int.lt_trichotomy a b with hlt | heq | hgt
  · go_enter Tryf.func64, Tryf.ntmps64
    go_wp2_with fail
    refine (isNaN_any _ _).mono ?_
    rintro e w1 ⟨rfl, rfl⟩
    go_wp2_with fail
    refine (isNaN_any _ _).mono ?_
    rintro e w1 ⟨rfl, rfl⟩
    go_wp2
    go_ret
    exact ⟨ret_i64 (by unfold cmpI; rw [if_pos hlt]), rfl⟩
  · subst heq
    go_enter Tryf.func64, Tryf.ntmps64
    go_wp2_with fail
    refine (isNaN_any _ _).mono ?_
    rintro e w1 ⟨rfl, rfl⟩
    go_wp2_with fail
    refine (isNaN_any _ _).mono ?_
    rintro e w1 ⟨rfl, rfl⟩
    go_wp2
    go_ret
    exact ⟨ret_i64 (by unfold cmpI; rw [if_neg (by omega), if_neg (by omega)]), rfl⟩
  · have hn : ¬ a < b := by omega
    go_enter Tryf.func64, Tryf.ntmps64
    go_wp2_with fail
    refine (isNaN_any _ _).mono ?_
    rintro e w1 ⟨rfl, rfl⟩
    go_wp2_with fail
    refine (isNaN_any _ _).mono ?_
    rintro e w1 ⟨rfl, rfl⟩
    go_wp2
    go_ret
    exact ⟨ret_i64 (by unfold cmpI; rw [if_neg (by omega), if_pos hgt]), rfl⟩

theorem byId_any (p : Nat) (a b : Int) (w : World) (hp : w.cell? ⟨p, 1, none⟩ = some (.int .i64 a)) : Calls Tryf.prog 63 #[.pointer (some ⟨p, 0, none⟩), .int .i64 b] w fun e w' => e = .returned (.int .i64 (cmpI a b)) ∧ w' = w := by
  go_enter Tryf.func63, Tryf.ntmps63
  go_wp2_with fail
  refine (compare_any a b _).mono ?_
  rintro e w1 ⟨rfl, rfl⟩
  go_wp2
  go_ret
  exact ⟨rfl, rfl⟩

/-- slices.BinarySearchFunc over the queue: r is the place of the first that is not below k. -/
def SrchPost (Q : List Nat) (k : Nat) (w : World) (e : Ending) (w' : World) : Prop :=
  ∃ r : Nat, e = .returned (.tuple #[.int .i64 r, .bool (decide (Q[r]? = some k))]) ∧ w' = w ∧ r ≤ Q.length ∧ (∀ t q, t < r → Q[t]? = some q → q < k) ∧ (∀ t q, r ≤ t → Q[t]? = some q → k ≤ q)

theorem sorted_before {Q : List Nat} (h : Q.Pairwise (· < ·)) {t u a b : Nat} (ha : Q[t]? = some a) (hb : Q[u]? = some b) (htu : t < u) : a < b := by
  obtain ⟨h1, h2⟩ := List.getElem?_eq_some_iff.1 ha
  obtain ⟨h3, h4⟩ := List.getElem?_eq_some_iff.1 hb
  have := List.pairwise_iff_getElem.1 h t u h1 h3 htu
  rw [h2, h4] at this
  exact this

set_option maxHeartbeats 2000000 in
theorem search_any (a : Option Addr) (cap : Nat) (Q : List Nat) (ps : List Nat) (k : Nat) (w : World) (hlen : Q.length ≤ 4096) (hs : Q.Pairwise (· < ·))
    (hq : ∀ i q, Q[i]? = some q → ∃ g, a = some ⟨g, 0, none⟩ ∧ w.cell? ⟨g, i, none⟩ = some (ptrV (ps.getD q 0)) ∧ w.cell? ⟨ps.getD q 0, 1, none⟩ = some (.int .i64 ((q : Int) + 1))) :
    Calls Tryf.prog 62 #[.slice a Q.length cap, .int .i64 ((k : Int) + 1), .func (.func 63) #[] #[]] w (SrchPost Q k w) := by
  obtain ⟨n, hn⟩ : ∃ n, n = Q.length := ⟨_, rfl⟩
  have HN : Hid (n = Q.length) := hn
  rw [← hn] at hlen ⊢
  have HS : Hid (Q.Pairwise (· < ·)) := hs
  clear hn hs
  go_enter Tryf.func62, Tryf.ntmps62
  go_wp2
  go_loop [9, 10] (fun vi vj => ∃ i j : Nat, vi = .int .i64 i ∧ vj = .int .i64 j ∧ i ≤ j ∧ j ≤ n ∧ (∀ t q, t < i → Q[t]? = some q → q < k) ∧ (∀ t q, j ≤ t → Q[t]? = some q → k ≤ q)) (fun vi vj => (intOf vj).toNat - (intOf vi).toNat)
  case atStart => exact ⟨0, n, rfl, rfl, Nat.zero_le _, Nat.le_refl _, fun t q ht => absurd ht (Nat.not_lt_zero _), fun t q ht hq => absurd (List.getElem?_eq_some_iff.1 hq).1 (by rw [← HN.out]; omega)⟩
  case round =>
    obtain ⟨i, j, rfl, rfl, hij, hjn, hlo, hhi⟩ := hrel
    have HLO : Hid (∀ t q, t < i → Q[t]? = some q → q < k) := hlo
    have HHI : Hid (∀ t q, j ≤ t → Q[t]? = some q → k ≤ q) := hhi
    clear hlo hhi
    by_cases hlt : i < j
    · have hh1 : i ≤ (i + j) / 2 := by omega
      have hh2 : (i + j) / 2 < j := by omega
      obtain ⟨q, hqh⟩ : ∃ q, Q[(i + j) / 2]? = some q := ⟨_, List.getElem?_eq_getElem (by rw [← HN.out]; omega)⟩
      obtain ⟨g, rfl, hc1, hc2⟩ := hq _ q hqh
      have HQ : Hid (Q[(i + j) / 2]? = some q) := hqh
      clear hqh hq
      unfold ptrV at hc1
      go_wp2_with fail
      refine (byId_any _ _ _ _ hc2).mono ?_
      rintro e w1 ⟨rfl, rfl⟩
      by_cases hqk : q < k
      · have hcmp : cmpI ((q : Int) + 1) ((k : Int) + 1) = -1 := by unfold cmpI; rw [if_pos (by omega)]
        rw [hcmp]
        clear hcmp
        go_wp2
        go_round
        case rel => exact ⟨(i + j) / 2 + 1, j, by go_num, rfl, by omega, hjn, fun t q' ht hq' => by
          by_cases hte : t = (i + j) / 2
          · subst hte
            rw [HQ.out] at hq'
            cases hq'
            exact hqk
          · exact Nat.lt_trans (sorted_before HS.out hq' HQ.out (by omega)) hqk, HHI.out⟩
        case measure => simp [intOf]; omega
      · have hcmp : ¬ cmpI ((q : Int) + 1) ((k : Int) + 1) < 0 := by unfold cmpI; split <;> (try split) <;> omega
        generalize cmpI ((q : Int) + 1) ((k : Int) + 1) = cc at hcmp
        go_wp2
        go_round
        case rel => exact ⟨i, (i + j) / 2, rfl, by go_num, hh1, by omega, HLO.out, fun t q' ht hq' => by
          by_cases hte : t = (i + j) / 2
          · subst hte
            rw [HQ.out] at hq'
            cases hq'
            omega
          · have := sorted_before HS.out HQ.out hq' (by omega)
            omega⟩
        case measure => simp [intOf]; omega
    · obtain rfl : i = j := by omega
      by_cases hin : i < n
      · obtain ⟨q, hqh⟩ : ∃ q, Q[i]? = some q := ⟨_, List.getElem?_eq_getElem (by rw [← HN.out]; omega)⟩
        obtain ⟨g, rfl, hc1, hc2⟩ := hq _ q hqh
        have HQ : Hid (Q[i]? = some q) := hqh
        clear hqh hq
        unfold ptrV at hc1
        go_wp2_with fail
        refine (byId_any _ _ _ _ hc2).mono ?_
        rintro e w1 ⟨rfl, rfl⟩
        have hcmp : (cmpI ((q : Int) + 1) ((k : Int) + 1) == 0) = decide (Q[i]? = some k) := by
          rw [HQ.out]
          unfold cmpI
          rcases Nat.lt_trichotomy q k with h1 | h1 | h1
          · rw [if_pos (by omega)]
            simp
            omega
          · rw [if_neg (by omega), if_neg (by omega)]
            simp [h1]
          · rw [if_neg (by omega), if_pos (by omega)]
            simp
            omega
        have HC : Hid _ := hcmp
        clear hcmp
        generalize cmpI ((q : Int) + 1) ((k : Int) + 1) = cc at HC
        go_wp2
        go_ret2
        exact ⟨i, by rw [← HC.out]; rfl, rfl, by rw [← HN.out]; omega, HLO.out, HHI.out⟩
      · have hno : Q[i]? = none := List.getElem?_eq_none (by rw [← HN.out]; omega)
        have HNO : Hid (Q[i]? = none) := hno
        clear hno hq
        go_wp2
        go_ret2
        exact ⟨i, by rw [HNO.out]; simp, rfl, by rw [← HN.out]; omega, HLO.out, HHI.out⟩
end Go.Proofs.Qxb6616853aFmt
