import Derived.Test.Qxb6616853aFmtKm
namespace Go.Proofs.Qxb6616853aFmt
open Go.RowKit

/-- What an event's cells keep to. -/
structure PEv.Ok (e : PEv) : Prop where
  at_ : I64 e.at_
  task : I64 e.task
  left : I64 e.left
  off : I64 e.off
  size : I64 e.size
  oly : e.oly.size ≤ maxLen
  team : e.team.size ≤ maxLen

/-- What a ledger's state keeps to, n events on. -/
structure PLed.Ok (m : PLed) (n : Nat) : Prop where
  st : I64 m.st
  en : I64 m.en
  nm : m.name.size ≤ maxLen
  disq : m.disq.length ≤ n
  dnd : m.disq.Nodup
  dsz : ∀ s ∈ m.disq, s.size ≤ maxLen
  subs : m.subs.length ≤ n
  solved : m.solved.length ≤ n
  snd : m.solved.Nodup
  ssz : ∀ x ∈ m.solved, goodK x
  queue : m.queue.length ≤ n
  recs : m.recs.length ≤ n
  shown : m.shown ≤ n
  sorted : m.queue.Pairwise (· < ·)
  qlt : ∀ i ∈ m.queue, i < m.subs.length
  rlt : ∀ x ∈ m.recs, x.1 < m.subs.length
  keys : ∀ s ∈ m.subs, s.team.size ≤ maxLen ∧ I64 s.task

theorem PLed.Ok.more {m : PLed} {n k : Nat} (h : m.Ok n) (hk : n ≤ k) : m.Ok k :=
  ⟨h.st, h.en, h.nm, Nat.le_trans h.disq hk, h.dnd, h.dsz, Nat.le_trans h.subs hk, Nat.le_trans h.solved hk, h.snd, h.ssz, Nat.le_trans h.queue hk, Nat.le_trans h.recs hk, Nat.le_trans h.shown hk, h.sorted, h.qlt, h.rlt, h.keys⟩

theorem I64.zero : I64 0 := ⟨by decide, by decide⟩

theorem PLed.fresh_ok {nm : ByteArray} (h : nm.size ≤ maxLen) (n : Nat) : (PLed.fresh nm).Ok n :=
  ⟨I64.zero, I64.zero, h, Nat.zero_le _, List.nodup_nil, by simp [PLed.fresh], Nat.zero_le _, Nat.zero_le _, List.nodup_nil, by simp [PLed.fresh], Nat.zero_le _, Nat.zero_le _, Nat.zero_le _, List.Pairwise.nil, by simp [PLed.fresh], by simp [PLed.fresh], by simp [PLed.fresh]⟩

theorem subAt_mem {T : List PSub} {i : Nat} (h : i < T.length) : subAt T i ∈ T := by
  unfold subAt
  rw [List.getD_eq_getElem?_getD, List.getElem?_eq_getElem h]
  exact List.getElem_mem h

theorem addS_nodup {D : List ByteArray} {s : ByteArray} (h : D.Nodup) : (addS D s).Nodup := by
  by_cases hs : s ∈ D
  · rw [addS_old hs]; exact h
  · rw [addS_new hs, List.nodup_append]
    exact ⟨h, by simp, fun a ha b hb => by simp at hb; subst hb; exact fun e => hs (e ▸ ha)⟩
theorem addS_length {D : List ByteArray} {s : ByteArray} : (addS D s).length ≤ D.length + 1 := by
  by_cases hs : s ∈ D
  · rw [addS_old hs]; omega
  · rw [addS_new hs]; simp
theorem addS_all {D : List ByteArray} {s : ByteArray} {p : ByteArray → Prop} (h : ∀ x ∈ D, p x) (hs : p s) : ∀ x ∈ addS D s, p x := by
  by_cases hm : s ∈ D
  · rw [addS_old hm]; exact h
  · rw [addS_new hm]
    intro x hx
    rcases List.mem_append.1 hx with hx | hx
    · exact h x hx
    · simp at hx
      exact hx ▸ hs
theorem addK_nodup {K : List (ByteArray × Int)} {t : ByteArray} {n : Int} (h : K.Nodup) : (addK K t n).Nodup := by
  by_cases hs : (t, n) ∈ K
  · rw [addK_old hs]; exact h
  · rw [addK_new hs, List.nodup_append]
    exact ⟨h, by simp, fun a ha b hb => by simp at hb; subst hb; exact fun e => hs (e ▸ ha)⟩
theorem addK_length {K : List (ByteArray × Int)} {t : ByteArray} {n : Int} : (addK K t n).length ≤ K.length + 1 := by
  by_cases hs : (t, n) ∈ K
  · rw [addK_old hs]; omega
  · rw [addK_new hs]; simp
theorem addK_all {K : List (ByteArray × Int)} {t : ByteArray} {n : Int} {p : ByteArray × Int → Prop} (h : ∀ x ∈ K, p x) (hs : p (t, n)) : ∀ x ∈ addK K t n, p x := by
  by_cases hm : (t, n) ∈ K
  · rw [addK_old hm]; exact h
  · rw [addK_new hm]
    intro x hx
    rcases List.mem_append.1 hx with hx | hx
    · exact h x hx
    · simp at hx
      exact hx ▸ hs

theorem PLed.refuses_not {m : PLed} {e : PEv} (h : m.refuses e = false) : 1 ≤ e.sub ∧ e.sub ≤ m.subs.length ∧ (e.sub - 1).toNat < m.subs.length ∧ e.sub = ((e.sub - 1).toNat : Int) + 1 := by
  unfold PLed.refuses at h
  simp at h
  omega

theorem PLed.Ok.submit {m : PLed} {n : Nat} {e : PEv} (h : m.Ok n) (he : e.Ok) : (m.submit e).Ok (n + 1) := by
  have hq : (m.submit e).queue = m.queue ∨ (m.submit e).queue = m.queue ++ [m.subs.length] := by
    unfold PLed.submit
    split <;> simp
  have hs : (m.submit e).subs = m.subs ++ [m.newSub e] := rfl
  refine ⟨h.st, h.en, h.nm, Nat.le_succ_of_le h.disq, h.dnd, h.dsz, ?_, Nat.le_succ_of_le h.solved, h.snd, h.ssz, ?_, Nat.le_succ_of_le h.recs, Nat.le_succ_of_le h.shown, ?_, ?_, ?_, ?_⟩
  · rw [hs]; simpa using h.subs
  · rcases hq with e1 | e1 <;> rw [e1]
    · exact Nat.le_succ_of_le h.queue
    · simpa using h.queue
  · rcases hq with e1 | e1 <;> rw [e1]
    · exact h.sorted
    · rw [List.pairwise_append]
      exact ⟨h.sorted, by simp, fun a ha b hb => by simp at hb; subst hb; exact h.qlt a ha⟩
  · intro i hi
    rw [hs, List.length_append, List.length_singleton]
    rcases hq with e1 | e1 <;> rw [e1] at hi
    · exact Nat.lt_succ_of_lt (h.qlt i hi)
    · rcases List.mem_append.1 hi with h1 | h1
      · exact Nat.lt_succ_of_lt (h.qlt i h1)
      · simp at h1
        omega
  · intro x hx
    rw [hs, List.length_append, List.length_singleton]
    exact Nat.lt_succ_of_lt (h.rlt x hx)
  · intro s hs'
    rw [hs] at hs'
    rcases List.mem_append.1 hs' with h1 | h1
    · exact h.keys s h1
    · simp at h1
      subst h1
      exact ⟨he.team, he.task⟩

theorem PLed.Ok.judgeAt {m : PLed} {n k : Nat} {r : Int} (h : m.Ok n) (hk : k < m.subs.length) : (m.judgeAt k r).Ok (n + 1) := by
  have hg : goodK ((subAt m.subs k).team, (subAt m.subs k).task) := h.keys _ (subAt_mem hk)
  have hsol : (m.judgeAt k r).solved = m.solved ∨ (m.judgeAt k r).solved = addK m.solved (subAt m.subs k).team (subAt m.subs k).task := by
    unfold PLed.judgeAt
    simp only
    split <;> simp
  have hrec : (m.judgeAt k r).recs = m.recs ∨ (m.judgeAt k r).recs = m.recs ++ [(k, r)] := by
    unfold PLed.judgeAt
    simp only
    split <;> simp
  have hq : (m.judgeAt k r).queue = m.queue.filter fun i => i != k := rfl
  refine ⟨h.st, h.en, h.nm, Nat.le_succ_of_le h.disq, h.dnd, h.dsz, Nat.le_succ_of_le h.subs, ?_, ?_, ?_, ?_, ?_, Nat.le_succ_of_le h.shown, ?_, ?_, ?_, h.keys⟩
  · have := addK_length (K := m.solved) (t := (subAt m.subs k).team) (n := (subAt m.subs k).task)
    have := h.solved
    rcases hsol with e1 | e1 <;> rw [e1] <;> omega
  · rcases hsol with e1 | e1 <;> rw [e1]
    · exact h.snd
    · exact addK_nodup h.snd
  · rcases hsol with e1 | e1 <;> rw [e1]
    · exact h.ssz
    · exact addK_all h.ssz hg
  · rw [hq]
    exact Nat.le_trans (List.length_filter_le _ _) (Nat.le_succ_of_le h.queue)
  · rcases hrec with e1 | e1 <;> rw [e1]
    · exact Nat.le_succ_of_le h.recs
    · simpa using h.recs
  · rw [hq]
    exact h.sorted.filter _
  · intro i hi
    rw [hq] at hi
    exact h.qlt i (List.mem_filter.1 hi).1
  · intro x hx
    rcases hrec with e1 | e1 <;> rw [e1] at hx
    · exact h.rlt x hx
    · rcases List.mem_append.1 hx with h1 | h1
      · exact h.rlt x h1
      · simp at h1
        subst h1
        exact hk

theorem PLed.Ok.disqualify {m : PLed} {n : Nat} {code : ByteArray} (h : m.Ok n) (hc : code.size ≤ maxLen) : (m.disqualify code).Ok (n + 1) := by
  refine ⟨h.st, h.en, h.nm, Nat.le_trans addS_length (Nat.succ_le_succ h.disq), addS_nodup h.dnd, addS_all h.dsz hc, Nat.le_succ_of_le h.subs, Nat.le_succ_of_le h.solved, h.snd, h.ssz, ?_, Nat.le_succ_of_le h.recs, Nat.le_succ_of_le h.shown, h.sorted.filter _, ?_, h.rlt, h.keys⟩
  · exact Nat.le_trans (List.length_filter_le _ _) (Nat.le_succ_of_le h.queue)
  · intro i hi
    exact h.qlt i (List.mem_filter.1 hi).1

theorem PLed.Ok.step {m : PLed} {n : Nat} {e : PEv} (h : m.Ok n) (he : e.Ok) : (m.step e).Ok (n + 1) := by
  have h' := h.more (Nat.le_succ n)
  unfold PLed.step
  split
  · exact { h' with st := he.at_ }
  split
  · exact h.submit he
  split
  · unfold PLed.judge
    cases hr : m.refuses e
    · exact h.judgeAt (PLed.refuses_not hr).2.2.1
    · exact h'
  split
  · exact { h' with en := he.at_ }
  split
  · exact { h' with }
  split
  · exact h.disqualify he.team
  split
  · exact { PLed.fresh_ok h.nm (n + 1) with disq := h'.disq, dnd := h.dnd, dsz := h.dsz }
  split
  · unfold PLed.setFrozen
    refine { h' with shown := ?_ }
    split
    · exact h'.recs
    · exact h'.shown
  split
  · exact { h' with shown := h'.recs }
  · exact h'

/-- Every ledger keeps to it. -/
def AllOk (Ls : List PLed) (n : Nat) : Prop := (∀ m ∈ Ls, m.Ok n) ∧ NamesApart Ls ∧ Ls.length ≤ n

theorem AllOk.withL {Ls : List PLed} {n : Nat} {nm : ByteArray} (h : AllOk Ls n) (hn : nm.size ≤ maxLen) : ∀ m ∈ withL Ls nm, m.Ok n := by
  unfold Qxb6616853aFmt.withL
  split
  · exact h.1
  · intro m hm
    rcases List.mem_append.1 hm with h1 | h1
    · exact h.1 m h1
    · simp at h1
      subst h1
      exact PLed.fresh_ok hn n

theorem ledAt_mem {Ls : List PLed} {i : Nat} (h : i < Ls.length) : ledAt Ls i ∈ Ls := List.mem_of_getElem? (ledAt_eq h)

theorem AllOk.step {Ls : List PLed} {n : Nat} {e : PEv} (h : AllOk Ls n) (he : e.Ok) : AllOk (stepAll Ls e) (n + 1) := by
  have hw := h.withL he.oly
  refine ⟨?_, stepAll_apart h.2.1, ?_⟩
  · intro m hm
    unfold stepAll at hm
    rcases List.mem_or_eq_of_mem_set hm with h1 | h1
    · exact (hw m h1).more (Nat.le_succ n)
    · subst h1
      exact (hw _ (ledAt_mem (placeOf_lt _ _))).step he
  · rw [stepAll_length]
    have := withL_length_le Ls e.oly
    have := h.2.2
    omega
theorem AllOk.nil : AllOk [] 0 := ⟨by simp, List.nodup_nil, Nat.le_refl _⟩
end Go.Proofs.Qxb6616853aFmt
