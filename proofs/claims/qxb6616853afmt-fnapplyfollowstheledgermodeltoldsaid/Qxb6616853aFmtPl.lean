import Derived.Test.Qxb6616853aFmtDel2
import Derived.Laws.BytesArg
namespace Go.Proofs.Qxb6616853aFmt
open Go.RowKit

/-! The plain state: what the hub holds of each olympiad, and what the law's model holds of it. -/

/-- A submission. -/
structure PSub where
  team : ByteArray
  tid : ByteArray
  task : Int
  comp : ByteArray
  off : Int
  size : Int
  mins : Int
  cnt : Bool

/-- An olympiad's ledger: moments in nanoseconds, the queue and the records by places among the submissions. -/
structure PLed where
  name : ByteArray
  disq : List ByteArray
  st : Int
  en : Int
  fz : Int
  fzs : Bool
  fro : Bool
  shown : Nat
  subs : List PSub
  solved : List (ByteArray × Int)
  queue : List Nat
  recs : List (Nat × Int)

/-- An event. -/
structure PEv where
  kind : Int
  oly : ByteArray
  at_ : Int
  team : ByteArray
  tid : ByteArray
  task : Int
  comp : ByteArray
  force : Bool
  sub : Int
  res : Int
  left : Int
  frozen : Bool
  off : Int
  size : Int

def PSub.none : PSub := ⟨ByteArray.empty, ByteArray.empty, 0, ByteArray.empty, 0, 0, 0, false⟩
def subAt (T : List PSub) (i : Nat) : PSub := T.getD i PSub.none

/-- Is (t, n) among the keys? -/
def memK (K : List (ByteArray × Int)) (t : ByteArray) (n : Int) : Bool := K.any fun x => eqS x.1 t && (x.2 == n)
def addK (K : List (ByteArray × Int)) (t : ByteArray) (n : Int) : List (ByteArray × Int) := if memK K t n then K else K ++ [(t, n)]

theorem memK_iff {K : List (ByteArray × Int)} {t : ByteArray} {n : Int} : memK K t n = true ↔ (t, n) ∈ K := by
  unfold memK
  rw [List.any_eq_true]
  constructor
  · rintro ⟨x, hx, he⟩
    rw [Bool.and_eq_true, eqS_iff, beq_iff_eq] at he
    obtain ⟨h1, h2⟩ := he
    rw [← h1, ← h2]
    exact hx
  · intro h
    exact ⟨_, h, by rw [Bool.and_eq_true, eqS_iff, beq_iff_eq]; exact ⟨rfl, rfl⟩⟩
theorem addK_old {K : List (ByteArray × Int)} {t : ByteArray} {n : Int} (h : (t, n) ∈ K) : addK K t n = K := by unfold addK; rw [if_pos (memK_iff.2 h)]
theorem addK_new {K : List (ByteArray × Int)} {t : ByteArray} {n : Int} (h : ¬ (t, n) ∈ K) : addK K t n = K ++ [(t, n)] := by unfold addK; rw [if_neg (fun e => h (memK_iff.1 e))]

def PLed.fresh (nm : ByteArray) : PLed := ⟨nm, [], 0, 0, 0, false, true, 0, [], [], [], []⟩

/-- The whole minutes from st to at, none below 0. -/
def minsOf (a st : Int) : Int := if (clamp (a - st)).tdiv 60000000000 < 0 then 0 else (clamp (a - st)).tdiv 60000000000

def PLed.newSub (m : PLed) (e : PEv) : PSub :=
  ⟨e.team, e.tid, e.task, e.comp, e.off, e.size, minsOf e.at_ m.st, !e.force || !memK m.solved e.team e.task⟩

def PLed.submit (m : PLed) (e : PEv) : PLed :=
  { m with queue := if e.force || !memK m.solved e.team e.task then m.queue ++ [m.subs.length] else m.queue, subs := m.subs ++ [m.newSub e] }

def PLed.refuses (m : PLed) (e : PEv) : Bool := decide (e.sub < 1) || decide ((m.subs.length : Int) < e.sub)

/-- A verdict on the submission at place k. -/
def PLed.judgeAt (m : PLed) (k : Nat) (r : Int) : PLed :=
  { m with
    queue := m.queue.filter fun i => i != k
    solved := if r = 0 then addK m.solved (subAt m.subs k).team (subAt m.subs k).task else m.solved
    recs := if (subAt m.subs k).cnt then m.recs ++ [(k, r)] else m.recs }

def PLed.judge (m : PLed) (e : PEv) : PLed := if m.refuses e then m else m.judgeAt (e.sub - 1).toNat e.res

def PLed.disqualify (m : PLed) (code : ByteArray) : PLed :=
  { m with disq := addS m.disq code, queue := m.queue.filter fun i => !eqS (subAt m.subs i).team code }

def PLed.setFrozen (m : PLed) (b : Bool) : PLed := { m with shown := if b then m.recs.length else m.shown, fro := b }

/-- What an event makes of its olympiad's ledger. -/
def PLed.step (m : PLed) (e : PEv) : PLed :=
  if e.kind = 1 then { m with st := e.at_ }
  else if e.kind = 2 then m.submit e
  else if e.kind = 3 then m.judge e
  else if e.kind = 4 then { m with en := e.at_ }
  else if e.kind = 5 then { m with fz := e.left, fzs := true }
  else if e.kind = 6 then m.disqualify e.team
  else if e.kind = 7 then { PLed.fresh m.name with disq := m.disq }
  else if e.kind = 8 then m.setFrozen e.frozen
  else if e.kind = 9 then { m with shown := m.recs.length }
  else m

/-- Is the event refused? -/
def PLed.refB (m : PLed) (e : PEv) : Bool := decide (e.kind = 3) && m.refuses e

theorem PLed.step_name (m : PLed) (e : PEv) : (m.step e).name = m.name := by
  unfold PLed.step PLed.submit PLed.judge PLed.judgeAt PLed.disqualify PLed.setFrozen PLed.fresh
  repeat' split
  all_goals rfl

/-- The place of the olympiad called nm; the list's length where there is none. -/
def placeOf (Ls : List PLed) (nm : ByteArray) : Nat := Ls.findIdx fun l => eqS l.name nm
/-- The ledgers with nm's among them. -/
def withL (Ls : List PLed) (nm : ByteArray) : List PLed := if placeOf Ls nm < Ls.length then Ls else Ls ++ [PLed.fresh nm]
def ledAt (Ls : List PLed) (i : Nat) : PLed := Ls.getD i (PLed.fresh ByteArray.empty)

/-- The ledgers behind an event. -/
def stepAll (Ls : List PLed) (e : PEv) : List PLed := (withL Ls e.oly).set (placeOf Ls e.oly) ((ledAt (withL Ls e.oly) (placeOf Ls e.oly)).step e)
def refAll (Ls : List PLed) (e : PEv) : Bool := (ledAt (withL Ls e.oly) (placeOf Ls e.oly)).refB e

theorem placeOf_le (Ls : List PLed) (nm : ByteArray) : placeOf Ls nm ≤ Ls.length := List.findIdx_le_length
theorem placeOf_lt (Ls : List PLed) (nm : ByteArray) : placeOf Ls nm < (withL Ls nm).length := by
  unfold withL
  split
  · assumption
  · have := placeOf_le Ls nm
    simp
    omega

/-- Names differ. -/
def NamesApart (Ls : List PLed) : Prop := (Ls.map PLed.name).Nodup

theorem eqS_false {a b : ByteArray} : eqS a b = false ↔ a ≠ b := by
  rw [Bool.eq_false_iff]
  exact not_congr eqS_iff

theorem placeOf_found {Ls : List PLed} {nm : ByteArray} {i : Nat} {l : PLed} (hi : Ls[i]? = some l) (hn : eqS l.name nm = true) (hb : ∀ (j : Nat) (l' : PLed), j < i → Ls[j]? = some l' → eqS l'.name nm = false) : placeOf Ls nm = i := by
  have hlt := (List.getElem?_eq_some_iff.1 hi).1
  have hget : Ls[i] = l := (List.getElem?_eq_some_iff.1 hi).2
  unfold placeOf
  rw [List.findIdx_eq hlt]
  refine ⟨by rw [hget]; exact hn, fun j hj => hb j _ hj (List.getElem?_eq_getElem (by omega))⟩

theorem placeOf_none {Ls : List PLed} {nm : ByteArray} (hb : ∀ (j : Nat) (l' : PLed), Ls[j]? = some l' → eqS l'.name nm = false) : placeOf Ls nm = Ls.length := by
  unfold placeOf
  rw [List.findIdx_eq_length]
  intro x hx
  obtain ⟨j, hj⟩ := List.getElem?_of_mem hx
  exact hb j x hj

theorem placeOf_name {Ls : List PLed} {nm : ByteArray} (h : placeOf Ls nm < Ls.length) : (ledAt Ls (placeOf Ls nm)).name = nm := by
  have := List.findIdx_getElem (p := fun l : PLed => eqS l.name nm) (w := h)
  unfold ledAt
  rw [List.getD_eq_getElem?_getD, List.getElem?_eq_getElem h]
  exact eqS_iff.1 this

theorem placeOf_not {Ls : List PLed} {nm : ByteArray} (h : ¬ placeOf Ls nm < Ls.length) : nm ∉ Ls.map PLed.name := by
  intro hm
  obtain ⟨l, hl, rfl⟩ := List.mem_map.1 hm
  exact h (List.findIdx_lt_length_of_exists ⟨l, hl, eqS_iff.2 rfl⟩)

theorem withL_apart {Ls : List PLed} {nm : ByteArray} (h : NamesApart Ls) : NamesApart (withL Ls nm) := by
  unfold withL
  split
  · exact h
  · rename_i hn
    unfold NamesApart
    rw [List.map_append, List.nodup_append]
    refine ⟨h, by simp, fun a ha b hb => ?_⟩
    simp [PLed.fresh] at hb
    subst hb
    exact fun e => placeOf_not hn (e ▸ ha)

theorem ledAt_eq {Ls : List PLed} {i : Nat} (h : i < Ls.length) : Ls[i]? = some (ledAt Ls i) := by
  unfold ledAt
  rw [List.getD_eq_getElem?_getD, List.getElem?_eq_getElem h]
  rfl

theorem names_set {Ls : List PLed} {i : Nat} {m : PLed} (h : i < Ls.length) (hm : m.name = (ledAt Ls i).name) : (Ls.set i m).map PLed.name = Ls.map PLed.name := by
  apply List.ext_getElem?
  intro n
  rw [List.getElem?_map, List.getElem?_map, List.getElem?_set]
  by_cases hn : i = n
  · subst hn
    rw [if_pos rfl, if_pos h, ledAt_eq h]
    simp [hm]
  · rw [if_neg hn]

theorem stepAll_apart {Ls : List PLed} {e : PEv} (h : NamesApart Ls) : NamesApart (stepAll Ls e) := by
  unfold NamesApart stepAll
  rw [names_set (placeOf_lt _ _) (PLed.step_name _ _)]
  exact withL_apart h

theorem stepAll_length (Ls : List PLed) (e : PEv) : (stepAll Ls e).length = (withL Ls e.oly).length := by
  unfold stepAll
  rw [List.length_set]

theorem withL_length_le (Ls : List PLed) (nm : ByteArray) : (withL Ls nm).length ≤ Ls.length + 1 := by
  unfold withL
  split
  · omega
  · simp

/-! Moments. -/
def nsOf (x : Int) : Int := x % 1000000000
def scOf (x : Int) : Int := x / 1000000000
theorem nsOf_pos (x : Int) : 0 ≤ nsOf x := by unfold nsOf; omega
theorem nsOf_lt (x : Int) : nsOf x < 1000000000 := by unfold nsOf; omega
theorem ns_sc (x : Int) : nsOf x + 1000000000 * scOf x = x := by unfold nsOf scOf; omega
theorem sc_lo {x : Int} (h : -9223372036854775808 ≤ x) : -10000000000 ≤ scOf x := by unfold scOf; omega
theorem sc_hi {x : Int} (h : x ≤ 9223372036854775807) : scOf x ≤ 10000000000 := by unfold scOf; omega
theorem ns_unique {x n s : Int} (h0 : 0 ≤ n) (h1 : n < 1000000000) (h : n + 1000000000 * s = x) : n = nsOf x ∧ s = scOf x := by unfold nsOf scOf; omega

/-- A number of int64. -/
def I64 (x : Int) : Prop := -9223372036854775808 ≤ x ∧ x ≤ 9223372036854775807

/-! Bytes. -/
/-- The slice v reads as the bytes s. -/
def IsBytes (w : World) (v : Value) (s : ByteArray) : Prop :=
  (∃ a l c, v = .slice a l c ∧ (a = none ∨ l = 0) ∧ s = ByteArray.empty) ∨
  ∃ b off len cap xs, v = .slice (some ⟨b, off, none⟩) len cap ∧ xs.length = len ∧ s = strOfNums xs ∧ ∀ i, i < len → b < w.heap.size ∧ w.cell? ⟨b, off + i, none⟩ = some (.int .u8 (xs.getD i 0))

theorem IsBytes.below {w w' : World} {v : Value} {s : ByteArray} {B : Nat} (h : IsBytes w v s) (hb : Below B w w') (hB : w.heap.size ≤ B) : IsBytes w' v s := by
  rcases h with h | ⟨b, off, len, cap, xs, h1, h2, h3, h4⟩
  · exact Or.inl h
  · refine Or.inr ⟨b, off, len, cap, xs, h1, h2, h3, fun i hi => ?_⟩
    obtain ⟨h5, h6⟩ := h4 i hi
    exact ⟨Nat.lt_of_lt_of_le h5 hb.size, (hb.cell (p := ⟨b, off + i, none⟩) (by show b < B; omega)).trans h6⟩

theorem IsBytes.conv {w : World} {v : Value} {s : ByteArray} (h : IsBytes w v s) : (convert 30 9 v).run Tryf.prog w = .ok (.string s) w := by
  rcases h with ⟨a, l, c, rfl, ha, rfl⟩ | ⟨b, off, len, cap, xs, rfl, h2, rfl, h4⟩
  · cases a with
    | none => exact run_convert_bytes_nil w 30 5 Tryf.underlying30 Tryf.underlying5 l c 9 Tryf.underlying9
    | some a =>
      obtain rfl : l = 0 := by simpa using ha
      rw [run_convert_bytes_string w 30 9 5 _ 0 c Tryf.underlying30 Tryf.underlying5 Tryf.underlying9, run_bytesToString w _ 0 c [] (by simpa using run_loadCells_list (P := Tryf.prog) w a [] (by simp))]
      rfl
  · exact run_convert_bytes_arg w 30 5 Tryf.underlying30 Tryf.underlying5 b off len cap xs h2 (fun i hi => (h4 i hi).2) 9 Tryf.underlying9

theorem IsBytes.form {w : World} {v : Value} {s : ByteArray} (h : IsBytes w v s) : ∃ a l c, v = .slice a l c := by
  rcases h with ⟨a, l, c, rfl, _⟩ | ⟨b, off, len, cap, xs, rfl, _⟩
  · exact ⟨_, _, _, rfl⟩
  · exact ⟨_, _, _, rfl⟩
end Go.Proofs.Qxb6616853aFmt
