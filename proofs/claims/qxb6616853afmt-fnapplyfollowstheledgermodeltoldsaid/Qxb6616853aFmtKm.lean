import Derived.Test.Qxb6616853aFmtPl
import Derived.DeepKeys4
namespace Go.Proofs.Qxb6616853aFmt
open Go.RowKit
open Go.ChangeMaps (setBlock)
open Go.WideMaps (keyOf_string_mk KeyLaw)

/-- A map's entries: the keys ks, told by enc, and their elements vs. -/
structure KMap {α : Type} (enc : α → Value) (good : α → Prop) (es : Array MapEntry) (ks : List α) (vs : List Value) : Prop where
  keys : es.toList.map (·.key) = ks.map enc
  vals : es.toList.map (·.val) = vs
  nodup : ks.Nodup
  good : ∀ a ∈ ks, good a

/-- What a key type's values are. -/
structure KeyEnc (P : Program) (k : TypeId) {α : Type} (enc : α → Value) (good : α → Prop) : Prop where
  law : KeyLaw P k
  inj : ∀ a b, enc a = enc b → a = b
  key : ∀ a, good a → ∃ l, keyOf P k (enc a) = some l

section
variable {α : Type} {enc : α → Value} {good : α → Prop} {P : Program} {t k el : TypeId} {es : Array MapEntry} {ks : List α} {vs : List Value}

theorem KMap.empty : KMap enc good #[] [] [] := ⟨rfl, rfl, List.nodup_nil, by simp⟩

theorem KMap.count (h : KMap enc good es ks vs) : es.size = ks.length := by
  have := congrArg List.length h.keys
  simpa using this

theorem KMap.entry (h : KMap enc good es ks vs) {j : Nat} {e : MapEntry} (he : es.toList[j]? = some e) : ∃ a, ks[j]? = some a ∧ e.key = enc a ∧ vs[j]? = some e.val := by
  have h1 : (es.toList.map (·.key))[j]? = some e.key := by rw [List.getElem?_map, he]; rfl
  rw [h.keys, List.getElem?_map] at h1
  obtain ⟨a, ha, hk⟩ := Option.map_eq_some_iff.1 h1
  refine ⟨a, ha, hk.symm, ?_⟩
  rw [← h.vals, List.getElem?_map, he]
  rfl

theorem KMap.at (h : KMap enc good es ks vs) {j : Nat} {a : α} (ha : ks[j]? = some a) : ∃ e, es.toList[j]? = some e ∧ e.key = enc a := by
  have h1 : (ks.map enc)[j]? = some (enc a) := by rw [List.getElem?_map, ha]; rfl
  rw [← h.keys, List.getElem?_map] at h1
  obtain ⟨e, he, hk⟩ := Option.map_eq_some_iff.1 h1
  exact ⟨e, he, hk⟩

theorem KMap.keyed (K : KeyEnc P k enc good) (h : KMap enc good es ks vs) : ∀ e ∈ es.toList, ∃ l, keyOf P k e.key = some l := by
  intro e he
  obtain ⟨j, hj⟩ := List.getElem?_of_mem he
  obtain ⟨a, ha, hk, _⟩ := h.entry hj
  rw [hk]
  exact K.key a (h.good a (List.mem_of_getElem? ha))

theorem KMap.find (K : KeyEnc P k enc good) (h : KMap enc good es ks vs) {a : α} (ha : good a) (w : World) :
    (a ∉ ks ∧ (Instr.findKey k (enc a) es.toList).run P w = .ok none w) ∨ ∃ (j : Nat) (v : Value), ks[j]? = some a ∧ vs[j]? = some v ∧ (Instr.findKey k (enc a) es.toList).run P w = .ok (some (j, v)) w := by
  obtain ⟨l, hl⟩ := K.key a ha
  rcases K.law.find w hl es.toList (h.keyed K) with ⟨h1, h2⟩ | ⟨j, e0, h1, h2, h3⟩
  · refine Or.inl ⟨fun hm => ?_, h1⟩
    obtain ⟨j, hj⟩ := List.getElem?_of_mem hm
    obtain ⟨e, he, hk⟩ := h.at hj
    exact h2 e (List.mem_of_getElem? he) hk
  · obtain ⟨a', ha', hk, hv⟩ := h.entry h2
    have : a' = a := K.inj _ _ (hk.symm.trans h3)
    subst this
    exact Or.inr ⟨j, _, ha', hv, h1⟩

/-- A look-up. -/
theorem KMap.lookup (ht : P.underlying t = some (.map k el)) (K : KeyEnc P k enc good) (h : KMap enc good es ks vs) {z : Value} (hz : ∀ w, (zeroValue el).run P w = .ok z w) {w : World} {b clock : Nat} (hb : w.heap[b]? = some (.map es clock)) {a : α} (ha : good a) :
    (a ∉ ks ∧ ∀ ok, (Instr.lookup t (.map (some b)) (enc a) ok).run P w = .ok (if ok then .tuple #[z, .bool false] else z) w) ∨
    ∃ (j : Nat) (v : Value), ks[j]? = some a ∧ vs[j]? = some v ∧ ∀ ok, (Instr.lookup t (.map (some b)) (enc a) ok).run P w = .ok (if ok then .tuple #[v, .bool true] else v) w := by
  obtain ⟨l, hl⟩ := K.key a ha
  rcases h.find K ha w with ⟨h1, h2⟩ | ⟨j, v, h1, h2, h3⟩
  · refine Or.inl ⟨h1, fun ok => ?_⟩
    simp [Instr.lookup, run_underlying ht, MapKept.run_getObj_map hb, K.law.check w _ hl, h2, hz, Result.andThen]
  · refine Or.inr ⟨j, v, h1, h2, fun ok => ?_⟩
    simp [Instr.lookup, run_underlying ht, MapKept.run_getObj_map hb, K.law.check w _ hl, h3, Result.andThen]

/-- A new entry. -/
theorem KMap.push (ht : P.underlying t = some (.map k el)) (K : KeyEnc P k enc good) (h : KMap enc good es ks vs) {a : α} (ha : good a) (hn : a ∉ ks) (v : Value) {clock : Nat} :
    ∃ es' clock', (∀ (w : World) (b : Nat), w.heap[b]? = some (.map es clock) → (Instr.mapUpdate t (.map (some b)) (enc a) v).run P w = .ok () (setBlock w b (.map es' clock'))) ∧ KMap enc good es' (ks ++ [a]) (vs ++ [v]) := by
  obtain ⟨l, hl⟩ := K.key a ha
  refine ⟨es.push ⟨enc a, v, clock⟩, clock + 1, fun w b hb => ?_, ?_⟩
  · rcases h.find K ha w with ⟨h1, h2⟩ | ⟨j, v, h1, h2, h3⟩
    · simp [Instr.mapUpdate, run_underlying ht, MapKept.run_getObj_map hb, K.law.check w _ hl, h2, MapKept.run_setObj_map _ hb, Result.andThen, setBlock]
    · exact absurd (List.mem_of_getElem? h1) hn
  · refine ⟨by simp [h.keys], by simp [h.vals], ?_, ?_⟩
    · rw [List.nodup_append]
      exact ⟨h.nodup, by simp, fun x hx y hy => by simp at hy; subst hy; exact fun e => hn (e ▸ hx)⟩
    · intro x hx
      rcases List.mem_append.1 hx with hx | hx
      · exact h.good x hx
      · simp at hx
        subst hx
        exact ha

/-- An entry that is there is laid anew, with the element that it had. -/
theorem KMap.same (ht : P.underlying t = some (.map k el)) (K : KeyEnc P k enc good) (h : KMap enc good es ks vs) {a : α} (ha : good a) {i : Nat} {v : Value} (hi : ks[i]? = some a) (hv : vs[i]? = some v) {clock : Nat} :
    ∃ es' clock', (∀ (w : World) (b : Nat), w.heap[b]? = some (.map es clock) → (Instr.mapUpdate t (.map (some b)) (enc a) v).run P w = .ok () (setBlock w b (.map es' clock'))) ∧ KMap enc good es' ks vs := by
  obtain ⟨l, hl⟩ := K.key a ha
  obtain ⟨e, he, hke⟩ := h.at hi
  have huniq : ∀ j, ks[j]? = some a → j = i := fun j hj =>
    (List.getElem?_inj (List.getElem?_eq_some_iff.1 hj).1 h.nodup).1 (hj.trans hi.symm)
  refine ⟨es.modify i fun e => { e with key := enc a, val := v }, clock, fun w b hb => ?_, ?_⟩
  · rcases h.find K ha w with ⟨h1, _⟩ | ⟨j, v', h1, h2, h3⟩
    · exact absurd (List.mem_of_getElem? hi) h1
    · have hji := huniq j h1
      subst hji
      have he' : es[j]? = some e := by simpa using he
      simp [Instr.mapUpdate, run_underlying ht, MapKept.run_getObj_map hb, K.law.check w _ hl, h3, he', hke, K.law.stays w hl, MapKept.run_setObj_map _ hb, Result.andThen, setBlock]
  · have hi' : es[i]? = some e := by simpa using he
    refine ⟨?_, ?_, h.nodup, h.good⟩
    · rw [← h.keys]
      apply List.ext_getElem?
      intro n
      simp only [List.getElem?_map, Array.getElem?_toList, Array.getElem?_modify]
      by_cases hin : i = n
      · subst hin
        simp [hi', hke]
      · simp [hin]
    · rw [← h.vals]
      apply List.ext_getElem?
      intro n
      simp only [List.getElem?_map, Array.getElem?_toList, Array.getElem?_modify]
      by_cases hin : i = n
      · subst hin
        have hv' := hv
        rw [← h.vals, List.getElem?_map, he] at hv'
        simp at hv'
        simp [hi', hv']
      · simp [hin]
end

/-! The two key types. -/
def encS (s : ByteArray) : Value := .string s
def goodS (s : ByteArray) : Prop := s.size ≤ maxLen
theorem keyS : KeyEnc Tryf.prog 9 encS goodS where
  law := WideMaps.string_law Tryf.underlying9
  inj := fun a b h => by simpa [encS] using h
  key := fun a h => ⟨_, keyOf_string_mk Tryf.underlying9 h⟩

def encK (x : ByteArray × Int) : Value := .agg #[.string x.1, .int .i64 x.2]
def goodK (x : ByteArray × Int) : Prop := x.1.size ≤ maxLen ∧ I64 x.2

theorem laidOutF : laidOutB Tryf.prog = true := by kernel_rfl
theorem row116 : (116 : TypeId) < Tryf.prog.types.size := of_decide_eq_true (by kernel_rfl)
theorem wide116 : (match Tryf.prog.underlying 116 with | some (.array _ _) | some (.struct _) => true | _ => false) = true := by rw [Tryf.underlying116]
set_option maxRecDepth 100000 in
theorem law116 : KeyLaw Tryf.prog 116 := deep_law_laid laidOutF (m := 2) (by omega) row116 (by kernel_rfl) wide116
theorem kt116 : Tryf.prog.keyType 116 = true := by kernel_rfl
theorem cells116 : Tryf.prog.cellsOf 116 = 2 := by kernel_rfl
theorem cells9 : Tryf.prog.cellsOf 9 = 1 := by kernel_rfl
theorem cells2 : Tryf.prog.cellsOf 2 = 1 := by kernel_rfl
theorem ts : ∃ m, Tryf.prog.types.size = m + 1 := ⟨260, by kernel_rfl⟩

theorem key116 (s : ByteArray) (n : Int) (hs : s.size ≤ maxLen) (hn : I64 n) : ∃ l, keyOf Tryf.prog 116 (.agg #[.string s, .int .i64 n]) = some l := by
  obtain ⟨m, hm⟩ := ts
  have wn : (Lit.int .i64 n).wf = true := by
    unfold I64 at hn
    simp [Lit.wf, IntKind.min, IntKind.max, IntKind.signed, IntKind.bits]
    omega
  refine ⟨.string (keyBytes [.string s.data.toList, .int .i64 n]), ?_⟩
  unfold keyOf
  simp only [Tryf.underlying116]
  rw [if_pos (by simp [kt116, Value.formed, Tryf.underlying116, cells116]), hm]
  unfold Program.keyLits
  simp only [Tryf.underlying116, Value.cells]
  simp [cells9, cells2, cells116, Program.keyLits, Tryf.underlying9, Tryf.underlying2, wn, hs]
theorem keyK : KeyEnc Tryf.prog 116 encK goodK where
  law := law116
  inj := fun a b h => by
    cases a
    cases b
    simpa [encK] using h
  key := fun a h => key116 a.1 a.2 h.1 h.2

end Go.Proofs.Qxb6616853aFmt
