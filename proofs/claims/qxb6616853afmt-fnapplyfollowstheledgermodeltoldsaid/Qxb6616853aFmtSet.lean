import Derived.Test.Qxb6616853aFmtMem
import Derived.Test.Qxb6616853aFmtProg
import Derived.StringKeys
import Derived.WideLaws
import Derived.ChangeMaps5
namespace Go.Proofs.Qxb6616853aFmt
open Go.RowKit
open Go.ChangeMaps (setBlock)
open Go.WideMaps (keyOf_string_mk)

/-- Two strings are equal, as the walk spells it. -/
def eqS (a b : ByteArray) : Bool := a.toList == b.toList

/-- A map's entries are the set D of strings: each with the element true. -/
structure SetMap (es : Array MapEntry) (D : List ByteArray) : Prop where
  keys : es.toList.map (·.key) = D.map Value.string
  vals : ∀ e ∈ es.toList, e.val = .bool true
  nodup : D.Nodup
  size : ∀ s ∈ D, s.size ≤ maxLen

theorem toList_loop (b : ByteArray) : ∀ (n i : Nat) (r : List UInt8), b.size - i = n → ByteArray.toList.loop b i r = r.reverse ++ b.data.toList.drop i := by
  intro n
  induction n with
  | zero =>
    intro i r h
    rw [ByteArray.toList.loop, if_neg (by omega), List.drop_eq_nil_of_le (by simpa using by have := b.size_data; omega)]
    simp
  | succ n ih =>
    intro i r h
    rw [ByteArray.toList.loop, if_pos (by omega), ih (i + 1) _ (by omega)]
    have hi : i < b.data.toList.length := by have : b.data.size = b.size := rfl; simp; omega
    rw [List.drop_eq_getElem_cons hi]
    have hg : b.get! i = b.data.toList[i] := by
      show b.data[i]! = _
      rw [getElem!_pos b.data i (by simpa using hi)]
      simp
    rw [hg]
    simp

theorem toList_eq (b : ByteArray) : b.toList = b.data.toList := by
  rw [ByteArray.toList, toList_loop b _ 0 [] rfl]
  simp

theorem eqS_iff {a b : ByteArray} : eqS a b = true ↔ a = b := by
  unfold eqS
  rw [beq_iff_eq, toList_eq, toList_eq]
  constructor
  · intro h
    cases a
    cases b
    simp only [ByteArray.mk.injEq]
    exact Array.toList_inj.1 h
  · intro h
    rw [h]

/-- Is s among D? -/
def memB (D : List ByteArray) (s : ByteArray) : Bool := D.any fun x => eqS x s

theorem memB_iff {D : List ByteArray} {s : ByteArray} : memB D s = true ↔ s ∈ D := by
  unfold memB
  rw [List.any_eq_true]
  constructor
  · rintro ⟨x, hx, he⟩
    rw [eqS_iff] at he
    exact he ▸ hx
  · intro h
    exact ⟨s, h, eqS_iff.2 rfl⟩

/-- D with s put in, where it is not there. -/
def addS (D : List ByteArray) (s : ByteArray) : List ByteArray := if memB D s then D else D ++ [s]

theorem addS_old {D : List ByteArray} {s : ByteArray} (h : s ∈ D) : addS D s = D := by unfold addS; rw [if_pos (memB_iff.2 h)]
theorem addS_new {D : List ByteArray} {s : ByteArray} (h : ¬ s ∈ D) : addS D s = D ++ [s] := by unfold addS; rw [if_neg (fun e => h (memB_iff.1 e))]

theorem SetMap.empty : SetMap #[] [] := ⟨rfl, by simp, List.nodup_nil, by simp⟩

theorem SetMap.count {es : Array MapEntry} {D : List ByteArray} (h : SetMap es D) : es.size = D.length := by
  have := congrArg List.length h.keys
  simpa using this

theorem SetMap.mem {es : Array MapEntry} {D : List ByteArray} (h : SetMap es D) {e : MapEntry} (he : e ∈ es.toList) : ∃ s ∈ D, e.key = .string s := by
  have : e.key ∈ es.toList.map (·.key) := List.mem_map.2 ⟨e, he, rfl⟩
  rw [h.keys] at this
  obtain ⟨s, hs, hk⟩ := List.mem_map.1 this
  exact ⟨s, hs, hk.symm⟩

theorem SetMap.has {es : Array MapEntry} {D : List ByteArray} (h : SetMap es D) {s : ByteArray} (hs : s ∈ D) : ∃ e ∈ es.toList, e.key = .string s := by
  have : Value.string s ∈ D.map Value.string := List.mem_map.2 ⟨s, hs, rfl⟩
  rw [← h.keys] at this
  obtain ⟨e, he, hk⟩ := List.mem_map.1 this
  exact ⟨e, he, hk⟩

section
variable {P : Program} {t k el : TypeId}

theorem SetMap.keyed (hk : P.underlying k = some .string) {es : Array MapEntry} {D : List ByteArray} (h : SetMap es D) : ∀ e ∈ es.toList, ∃ l, keyOf P k e.key = some l := by
  intro e he
  obtain ⟨s, hs, hke⟩ := h.mem he
  rw [hke]
  exact ⟨_, keyOf_string_mk hk (h.size s hs)⟩

theorem SetMap.lookup (ht : P.underlying t = some (.map k el)) (hk : P.underlying k = some .string) (hz : ∀ w, (zeroValue el).run P w = .ok (.bool false) w) {w : World} {b : Nat} {es : Array MapEntry} {clock : Nat} {D : List ByteArray}
    (hb : w.heap[b]? = some (.map es clock)) (h : SetMap es D) {s : ByteArray} (hs : s.size ≤ maxLen) :
    (Instr.lookup t (.map (some b)) (.string s) false).run P w = .ok (.bool (memB D s)) w := by
  have K := WideMaps.string_law hk
  have hkey := keyOf_string_mk hk hs
  rcases K.find w hkey es.toList (h.keyed hk) with ⟨h1, h2⟩ | ⟨j, e0, h1, h2, h3⟩
  · have hn : ¬ s ∈ D := fun hm => by
      obtain ⟨e, he, hke⟩ := h.has hm
      exact h2 e he hke
    have hb' : memB D s = false := by rw [Bool.eq_false_iff]; exact fun e => hn (memB_iff.1 e)
    simp [Instr.lookup, run_underlying ht, MapKept.run_getObj_map hb, K.check w _ hkey, h1, hz, hb', Result.andThen]
  · have he := List.mem_of_getElem? h2
    have hy : s ∈ D := by
      obtain ⟨s', hs', hke⟩ := h.mem he
      rw [h3] at hke
      simp at hke
      rw [hke]
      exact hs'
    have hv := h.vals e0 he
    have hb' : memB D s = true := memB_iff.2 hy
    simp [Instr.lookup, run_underlying ht, MapKept.run_getObj_map hb, K.check w _ hkey, h1, hv, hb', Result.andThen]

theorem SetMap.update (ht : P.underlying t = some (.map k el)) (hk : P.underlying k = some .string) {es : Array MapEntry} {clock : Nat} {D : List ByteArray}
    (h : SetMap es D) {s : ByteArray} (hs : s.size ≤ maxLen) :
    ∃ es' clock', (∀ (w : World) (b : Nat), w.heap[b]? = some (.map es clock) → (Instr.mapUpdate t (.map (some b)) (.string s) (.bool true)).run P w = .ok () (setBlock w b (.map es' clock'))) ∧ SetMap es' (addS D s) := by
  have K := WideMaps.string_law hk
  have hkey := keyOf_string_mk hk hs
  by_cases hm : s ∈ D
  · obtain ⟨e, he, hke⟩ := h.has hm
    obtain ⟨i, hi⟩ := List.getElem?_of_mem he
    -- the entry that is found is one whose key is s: it is the same place in whatever world
    have hfind : ∀ w : World, ∃ j e0, (Instr.findKey k (.string s) es.toList).run P w = .ok (some (j, e0.val)) w ∧ es.toList[j]? = some e0 ∧ e0.key = .string s := by
      intro w
      rcases K.find w hkey es.toList (h.keyed hk) with ⟨h1, h2⟩ | ⟨j, e0, h1, h2, h3⟩
      · exact absurd hke (h2 e he)
      · exact ⟨j, e0, h1, h2, h3⟩
    have huniq : ∀ j e0, es.toList[j]? = some e0 → e0.key = .string s → j = i := by
      intro j e0 hj hk0
      have hjl := (List.getElem?_eq_some_iff.1 hj).1
      have hil := (List.getElem?_eq_some_iff.1 hi).1
      have e1 : (D.map Value.string)[j]? = some (.string s) := by rw [← h.keys, List.getElem?_map, hj]; simp [hk0]
      have e2 : (D.map Value.string)[i]? = some (.string s) := by rw [← h.keys, List.getElem?_map, hi]; simp [hke]
      have nd : (D.map Value.string).Nodup := List.Pairwise.map Value.string (fun a b hab e => hab (by simpa using e)) h.nodup
      exact (List.getElem?_inj (by rw [← h.keys]; simpa using hjl) nd).1 (e1.trans e2.symm)
    refine ⟨es.modify i fun e => { e with key := .string s, val := .bool true }, clock, fun w b hb => ?_, ?_⟩
    · obtain ⟨j, e0, h1, h2, h3⟩ := hfind w
      have hji := huniq j e0 h2 h3
      subst hji
      have h2' : es[j]? = some e0 := by simpa using h2
      simp [Instr.mapUpdate, run_underlying ht, MapKept.run_getObj_map hb, K.check w _ hkey, h1, h2', h3, K.stays w hkey, MapKept.run_setObj_map _ hb, Result.andThen, setBlock]
    · rw [addS_old hm]
      refine ⟨?_, ?_, h.nodup, h.size⟩
      · rw [← h.keys]
        apply List.ext_getElem?
        intro n
        simp only [List.getElem?_map, Array.getElem?_toList, Array.getElem?_modify]
        by_cases hin : i = n
        · subst hin
          have hi' : es[i]? = some e := by simpa using hi
          simp [hi', hke]
        · simp [hin]
      · intro x hx
        obtain ⟨n, hn⟩ := List.getElem?_of_mem hx
        simp only [Array.getElem?_toList, Array.getElem?_modify] at hn
        by_cases hin : i = n
        · subst hin
          rw [if_pos rfl] at hn
          obtain ⟨y, _, hy⟩ := Option.map_eq_some_iff.1 hn
          rw [← hy]
        · rw [if_neg hin] at hn
          exact h.vals x (by rw [Array.mem_toList_iff]; exact Array.mem_of_getElem? hn)
  · refine ⟨es.push ⟨.string s, .bool true, clock⟩, clock + 1, fun w b hb => ?_, ?_⟩
    · rcases K.find w hkey es.toList (h.keyed hk) with ⟨h1, h2⟩ | ⟨j, e0, h1, h2, h3⟩
      · simp [Instr.mapUpdate, run_underlying ht, MapKept.run_getObj_map hb, K.check w _ hkey, h1, MapKept.run_setObj_map _ hb, Result.andThen, setBlock]
      · exfalso
        obtain ⟨s', hs', hke⟩ := h.mem (List.mem_of_getElem? h2)
        rw [h3] at hke
        simp at hke
        rw [hke] at hm
        exact hm hs'
    · rw [addS_new hm]
      refine ⟨by simp [h.keys], ?_, ?_, ?_⟩
      · intro x hx
        simp only [Array.toList_push, List.mem_append, List.mem_singleton] at hx
        rcases hx with hx | rfl
        · exact h.vals x hx
        · rfl
      · rw [List.nodup_append]
        exact ⟨h.nodup, by simp, fun a ha b hb => by simp at hb; subst hb; exact fun e => hm (e ▸ ha)⟩
      · intro x hx
        rcases List.mem_append.1 hx with hx | hx
        · exact h.size x hx
        · simp at hx
          subst hx
          exact hs

end
end Go.Proofs.Qxb6616853aFmt
