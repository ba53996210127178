import Derived.Test.Qxb6616853aFmtSubm
import Derived.Test.Qxb6616853aFmtMod
import Derived.Deep.RegionWith
namespace Go.Proofs.Qxb6616853aFmt
open Go.RowKit Go.Extern.Stop Go.Stop Go.Extern
open Go.ChangeMaps (setBlock)
attribute [local go_sem ↓] Go.wp_at_zero Go.wp_at_succ

/-! The hub. -/
/-- The hub at block H: its map of ledgers at hm; ledger i's block p i, its blocks G i. -/
structure HubAt (w : World) (K H hm : Nat) (Ls : List PLed) (p : Nat → Nat) (G : Nat → Nat → Prop) : Prop where
  hub : ∃ C, Blk w H C 62 ∧ C[K]? = some (.map (some hm))
  map : ∃ es ck, w.heap[hm]? = some (.map es ck) ∧ KMap encS goodS es (Ls.map PLed.name) ((List.range Ls.length).map fun i => ptrV (p i))
  led : ∀ i, i < Ls.length → IsLed w (G i) (p i) (ledAt Ls i)
  apart : ∀ i j b, i < Ls.length → j < Ls.length → G i b → G j b → i = j
  nH : ∀ i, i < Ls.length → ¬ G i H
  nM : ∀ i, i < Ls.length → ¬ G i hm

def hfoot (H hm n : Nat) (G : Nat → Nat → Prop) (b : Nat) : Prop := b = H ∨ b = hm ∨ ∃ i, i < n ∧ G i b

theorem HubAt.lt {w : World} {K H hm : Nat} {Ls : List PLed} {p : Nat → Nat} {G : Nat → Nat → Prop} (h : HubAt w K H hm Ls p G) {b : Nat} (hb : hfoot H hm Ls.length G b) : b < w.heap.size := by
  rcases hb with rfl | rfl | ⟨i, hi, hb⟩
  · obtain ⟨C, hC, _⟩ := h.hub
    exact hC.lt
  · obtain ⟨es, ck, h1, _⟩ := h.map
    exact (Array.getElem?_eq_some_iff.1 h1).1
  · exact (h.led i hi).lt b hb

/-- The hub's blocks are as they were. -/
theorem HubAt.frame {w w' : World} {K H hm : Nat} {Ls : List PLed} {p : Nat → Nat} {G : Nat → Nat → Prop} (h : HubAt w K H hm Ls p G) (hb : ∀ b, hfoot H hm Ls.length G b → w'.heap[b]? = w.heap[b]?) (hs : w.heap.size ≤ w'.heap.size) : HubAt w' K H hm Ls p G where
  hub := by
    obtain ⟨C, hC, h1⟩ := h.hub
    exact ⟨C, (hb H (Or.inl rfl)).trans hC, h1⟩
  map := by
    obtain ⟨es, ck, h1, h2⟩ := h.map
    exact ⟨es, ck, (hb hm (Or.inr (Or.inl rfl))).trans h1, h2⟩
  led := fun i hi => by
    obtain ⟨x, hx⟩ := h.led i hi
    exact ⟨x, hx.frame (fun k hk => hb k (Or.inr (Or.inr ⟨i, hi, hk⟩))) hs⟩
  apart := h.apart
  nH := h.nH
  nM := h.nM

theorem HubAt.below {w w' : World} {K H hm : Nat} {Ls : List PLed} {p : Nat → Nat} {G : Nat → Nat → Prop} (h : HubAt w K H hm Ls p G) (hb : Below w.heap.size w w') : HubAt w' K H hm Ls p G :=
  h.frame (fun b hf => hb.block b (h.lt hf)) hb.size

/-- Ledger i has turned to m. -/
theorem HubAt.turn {w w' : World} {K H hm : Nat} {Ls : List PLed} {p : Nat → Nat} {G : Nat → Nat → Prop} (h : HubAt w K H hm Ls p G) {i : Nat} (hi : i < Ls.length) {m : PLed} {F' : Nat → Prop} (hn : m.name = (ledAt Ls i).name) (hl : IsLed w' F' (p i) m) (hf : Framed w (G i) w' F') :
    HubAt w' K H hm (Ls.set i m) p (put1 G i F') ∧ Framed w (hfoot H hm Ls.length G) w' (hfoot H hm (Ls.set i m).length (put1 G i F')) := by
  have hHl : H < w.heap.size := h.lt (Or.inl rfl)
  have hml : hm < w.heap.size := h.lt (Or.inr (Or.inl rfl))
  have hlen : (Ls.set i m).length = Ls.length := List.length_set ..
  refine ⟨⟨?_, ?_, fun j hj => ?_, fun j k b hj hk h1 h2 => ?_, fun j hj => ?_, fun j hj => ?_⟩, ⟨hf.os, hf.tape, hf.output, hf.size, fun b hb hn' => hf.block b hb (fun hG => hn' (Or.inr (Or.inr ⟨i, hi, hG⟩))), fun b hb => ?_⟩⟩
  · obtain ⟨C, hC, h1⟩ := h.hub
    exact ⟨C, (hf.block H hHl (h.nH i hi)).trans hC, h1⟩
  · obtain ⟨es, ck, h1, h2⟩ := h.map
    refine ⟨es, ck, (hf.block hm hml (h.nM i hi)).trans h1, ?_⟩
    rw [hlen, names_set hi hn]
    exact h2
  · rw [hlen] at hj
    rw [ledAt_set hi]
    by_cases hji : j = i
    · subst hji
      rw [if_pos rfl, put1_same]
      exact hl
    · rw [if_neg hji, put1_other _ _ hji]
      exact (h.led j hj).other hf (fun k h1 h2 => hji (h.apart i j k hi hj h1 h2).symm)
  · rw [hlen] at hj hk
    by_cases hji : j = i
    · subst hji
      by_cases hki : k = j
      · exact hki.symm
      · rw [put1_same] at h1
        rw [put1_other _ _ hki] at h2
        rcases hf.inside b h1 with h3 | h3
        · exact h.apart j k b hj hk h3 h2
        · have := (h.led k hk).lt b h2
          omega
    · rw [put1_other _ _ hji] at h1
      by_cases hki : k = i
      · subst hki
        rw [put1_same] at h2
        rcases hf.inside b h2 with h3 | h3
        · exact h.apart j k b hj hk h1 h3
        · have := (h.led j hj).lt b h1
          omega
      · rw [put1_other _ _ hki] at h2
        exact h.apart j k b hj hk h1 h2
  · rw [hlen] at hj
    by_cases hji : j = i
    · subst hji
      rw [put1_same]
      intro h1
      rcases hf.inside H h1 with h3 | h3
      · exact h.nH j hj h3
      · omega
    · rw [put1_other _ _ hji]
      exact h.nH j hj
  · rw [hlen] at hj
    by_cases hji : j = i
    · subst hji
      rw [put1_same]
      intro h1
      rcases hf.inside hm h1 with h3 | h3
      · exact h.nM j hj h3
      · omega
    · rw [put1_other _ _ hji]
      exact h.nM j hj
  · rcases hb with h1 | h1 | ⟨j, hj, h1⟩
    · exact Or.inl (Or.inl h1)
    · exact Or.inl (Or.inr (Or.inl h1))
    · rw [hlen] at hj
      by_cases hji : j = i
      · subst hji
        rw [put1_same] at h1
        rcases hf.inside b h1 with h3 | h3
        · exact Or.inl (Or.inr (Or.inr ⟨j, hj, h3⟩))
        · exact Or.inr h3
      · rw [put1_other _ _ hji] at h1
        exact Or.inl (Or.inr (Or.inr ⟨j, hj, h1⟩))

/-- A ledger more. -/
theorem HubAt.push {w w1 : World} {K H hm L : Nat} {Ls : List PLed} {p : Nat → Nat} {G : Nat → Nat → Prop} {nm : ByteArray} (h : HubAt w K H hm Ls p G) (hb : Below w.heap.size w w1) {F' : Nat → Prop} (hl : IsLed w1 F' L (PLed.fresh nm)) (hF : ∀ k, F' k → w.heap.size ≤ k)
    {es' : Array MapEntry} {ck' : Nat} (hk : KMap encS goodS es' (Ls.map PLed.name ++ [nm]) (((List.range Ls.length).map fun i => ptrV (p i)) ++ [ptrV L])) :
    HubAt (setBlock w1 hm (.map es' ck')) K H hm (Ls ++ [PLed.fresh nm]) (put1 p Ls.length L) (put1 G Ls.length F') ∧ Framed w (hfoot H hm Ls.length G) (setBlock w1 hm (.map es' ck')) (hfoot H hm (Ls ++ [PLed.fresh nm]).length (put1 G Ls.length F')) := by
  have hHl : H < w.heap.size := h.lt (Or.inl rfl)
  have hml : hm < w.heap.size := h.lt (Or.inr (Or.inl rfl))
  have hs := hb.size
  have hlen : (Ls ++ [PLed.fresh nm]).length = Ls.length + 1 := by simp
  have hHm : H ≠ hm := by
    obtain ⟨C, hC, _⟩ := h.hub
    obtain ⟨es, ck, h1, _⟩ := h.map
    exact hC.noMap h1
  have hwb : ∀ b, b < w.heap.size → b ≠ hm → (setBlock w1 hm (.map es' ck')).heap[b]? = w.heap[b]? := fun b h1 h2 => (setBlock_other h2 _).trans (hb.block b h1)
  refine ⟨⟨?_, ?_, fun j hj => ?_, fun j k b hj hk' h1 h2 => ?_, fun j hj => ?_, fun j hj => ?_⟩, ⟨hb.os, hb.tape, hb.output, by rw [setBlock_size]; exact hs, fun b hb' hn' => hwb b hb' (fun e => hn' (Or.inr (Or.inl e))), fun b hb' => ?_⟩⟩
  · obtain ⟨C, hC, h1⟩ := h.hub
    exact ⟨C, (hwb H hHl hHm).trans hC, h1⟩
  · refine ⟨es', ck', setBlock_same (by omega) _, ?_⟩
    rw [hlen, List.map_append, List.range_succ, List.map_append]
    have e1 : (List.range Ls.length).map (fun i => ptrV (put1 p Ls.length L i)) = (List.range Ls.length).map fun i => ptrV (p i) := by
      apply List.map_congr_left
      intro i hi
      rw [put1_other _ _ (by have := List.mem_range.1 hi; omega)]
    rw [e1]
    show KMap encS goodS es' (Ls.map PLed.name ++ [nm]) (_ ++ [ptrV (put1 p Ls.length L Ls.length)])
    rw [put1_same]
    exact hk
  · rw [hlen] at hj
    by_cases hjn : j = Ls.length
    · subst hjn
      rw [put1_same, put1_same]
      have : ledAt (Ls ++ [PLed.fresh nm]) Ls.length = PLed.fresh nm := by unfold ledAt; exact getD_append_len
      rw [this]
      obtain ⟨x, hx⟩ := hl
      exact ⟨x, hx.frame (fun k hk' => setBlock_other (by have := hF k hk'; omega) _) (by rw [setBlock_size]; exact Nat.le_refl _)⟩
    · rw [put1_other _ _ hjn, put1_other _ _ hjn]
      have : ledAt (Ls ++ [PLed.fresh nm]) j = ledAt Ls j := by unfold ledAt; exact getD_append_left (by omega)
      rw [this]
      obtain ⟨x, hx⟩ := h.led j (by omega)
      exact ⟨x, hx.frame (fun k hk' => hwb k (hx.below k hk') (fun e => h.nM j (by omega) (e ▸ hk'))) (by rw [setBlock_size]; exact hs)⟩
  · rw [hlen] at hj hk'
    by_cases hji : j = Ls.length
    · subst hji
      by_cases hki : k = Ls.length
      · exact hki.symm
      · rw [put1_same] at h1
        rw [put1_other _ _ hki] at h2
        have := (h.led k (by omega)).lt b h2
        have := hF b h1
        omega
    · rw [put1_other _ _ hji] at h1
      by_cases hki : k = Ls.length
      · subst hki
        rw [put1_same] at h2
        have := (h.led j (by omega)).lt b h1
        have := hF b h2
        omega
      · rw [put1_other _ _ hki] at h2
        exact h.apart j k b (by omega) (by omega) h1 h2
  · rw [hlen] at hj
    by_cases hji : j = Ls.length
    · subst hji
      rw [put1_same]
      intro h1
      have := hF H h1
      omega
    · rw [put1_other _ _ hji]
      exact h.nH j (by omega)
  · rw [hlen] at hj
    by_cases hji : j = Ls.length
    · subst hji
      rw [put1_same]
      intro h1
      have := hF hm h1
      omega
    · rw [put1_other _ _ hji]
      exact h.nM j (by omega)
  · rcases hb' with h1 | h1 | ⟨j, hj, h1⟩
    · exact Or.inl (Or.inl h1)
    · exact Or.inl (Or.inr (Or.inl h1))
    · rw [hlen] at hj
      by_cases hji : j = Ls.length
      · subst hji
        rw [put1_same] at h1
        exact Or.inr (hF b h1)
      · rw [put1_other _ _ hji] at h1
        exact Or.inl (Or.inr (Or.inr ⟨j, by omega, h1⟩))
end Go.Proofs.Qxb6616853aFmt
