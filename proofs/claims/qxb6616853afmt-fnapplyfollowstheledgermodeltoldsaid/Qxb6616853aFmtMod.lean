import Derived.Test.Qxb6616853aFmtLed
import Derived.Deep.AppendLies
namespace Go.Proofs.Qxb6616853aFmt
open Go.RowKit

/-! The law's model: a slice of records of 13 cells, each with six slices. -/

/-- Row upon row, each of s cells. -/
def rows (n : Nat) (f : Nat → List Value) : List Value := (List.range n).flatMap f

theorem rows_zero (f : Nat → List Value) : rows 0 f = [] := rfl
theorem rows_succ (n : Nat) (f : Nat → List Value) : rows (n + 1) f = rows n f ++ f n := by
  unfold rows
  rw [List.range_succ, List.flatMap_append]
  simp
theorem rows_length {s : Nat} {f : Nat → List Value} (n : Nat) (hl : ∀ i, i < n → (f i).length = s) : (rows n f).length = n * s := by
  induction n with
  | zero => simp [rows_zero]
  | succ n ih =>
    rw [rows_succ, List.length_append, ih (fun i hi => hl i (by omega)), hl n (by omega), Nat.succ_mul]
theorem rows_get {s : Nat} {f : Nat → List Value} (n : Nat) (hl : ∀ i, i < n → (f i).length = s) {i p : Nat} (hi : i < n) (hp : p < s) : (rows n f)[i * s + p]? = (f i)[p]? := by
  induction n with
  | zero => omega
  | succ n ih =>
    have hln := rows_length (f := f) n (fun i hi => hl i (by omega))
    have hmul : n * s = s * n := Nat.mul_comm _ _
    rw [rows_succ]
    by_cases h : i < n
    · rw [List.getElem?_append_left (by
        have := Nat.mul_le_mul_right s (show i + 1 ≤ n by omega)
        rw [Nat.succ_mul] at this
        rw [hln]
        omega), ih (fun i hi => hl i (by omega)) h]
    · obtain rfl : i = n := by omega
      rw [List.getElem?_append_right (by rw [hln]; omega), hln]
      congr 1
      omega
theorem rows_congr {n : Nat} {f g : Nat → List Value} (h : ∀ i, i < n → f i = g i) : rows n f = rows n g := by
  induction n with
  | zero => rfl
  | succ n ih => rw [rows_succ, rows_succ, ih (fun i hi => h i (by omega)), h n (by omega)]
theorem rows_set {s : Nat} {f g : Nat → List Value} (n : Nat) (hl : ∀ i, i < n → (f i).length = s) {i p : Nat} (hi : i < n) (hp : p < s) {v : Value} (hg : ∀ j, j < n → j ≠ i → g j = f j) (hi' : g i = (f i).set p v) : (rows n f).set (i * s + p) v = rows n g := by
  induction n with
  | zero => omega
  | succ n ih =>
    have hln := rows_length (f := f) n (fun i hi => hl i (by omega))
    have hmul : n * s = s * n := Nat.mul_comm _ _
    rw [rows_succ, rows_succ]
    by_cases h : i < n
    · rw [List.set_append_left _ _ (by
        have := Nat.mul_le_mul_right s (show i + 1 ≤ n by omega)
        rw [Nat.succ_mul] at this
        rw [hln]
        omega), ih (fun i hi => hl i (by omega)) h (fun j hj => hg j (by omega)), hg n (by omega) (by omega)]
    · obtain rfl : i = n := by omega
      rw [List.set_append_right _ _ (by rw [hln]; omega), hln, hi', rows_congr (fun j hj => hg j (by omega) (by omega)), show i * s + p - i * s = p by omega]

def ety : Nat → TypeId
  | 0 => 9
  | 1 => 71
  | 2 => 68
  | _ => 3
def esz : Nat → Nat
  | 0 => 1
  | 1 => 9
  | 2 => 2
  | _ => 1
def fpos : Nat → Nat
  | 0 => 1
  | 1 => 8
  | 2 => 9
  | 3 => 10
  | 4 => 11
  | _ => 12

/-- One ledger of the model: k elements and their cells c in each of six slices (0 disq, 1 subs, 2 solved, 3 queue, 4 recSub, 5 recRes). -/
structure MR where
  name : ByteArray
  st : Int
  en : Int
  fz : Int
  fzs : Bool
  fro : Bool
  shown : Int
  k : Nat → Nat
  c : Nat → List Value

def mrC (m : MR) (x : Nat → Value) : List Value := [.string m.name, x 0, .int .i64 m.st, .int .i64 m.en, .int .i64 m.fz, .bool m.fzs, .bool m.fro, .int .i64 m.shown, x 1, x 2, x 3, x 4, x 5]

structure ModAt (w : World) (v : Value) (n : Nat) (M : Nat → MR) (x : Nat → Nat → Value) : Prop where
  row : w.ownsRow 0 43 13 v n (rows n fun i => mrC (M i) (x i))
  own : ∀ i f, i < n → f < 6 → w.ownsRow 0 (ety f) (esz f) (x i f) ((M i).k f) ((M i).c f)
  uniq : ∀ i f j g b, i < n → f < 6 → j < n → g < 6 → (x i f).ownBlock = some b → (x j g).ownBlock = some b → i = j ∧ f = g

/-- The model's blocks. -/
def foot (v : Value) (n : Nat) (x : Nat → Nat → Value) (b : Nat) : Prop := v.ownBlock = some b ∨ ∃ i f, i < n ∧ f < 6 ∧ (x i f).ownBlock = some b

theorem ety_ne {f : Nat} : ety f ≠ 43 := by
  unfold ety
  split <;> decide

theorem ModAt.inner {w : World} {v : Value} {n : Nat} {M : Nat → MR} {x : Nat → Nat → Value} (h : ModAt w v n M x) {i f b : Nat} (hi : i < n) (hf : f < 6) (hb : (x i f).ownBlock = some b) : v.ownBlock ≠ some b := fun e => by
  obtain ⟨C, hC⟩ := owns_row h.row e
  exact owns_ne (h.own i f hi hf) hC ety_ne hb

theorem ModAt.foot_lt {w : World} {v : Value} {n : Nat} {M : Nat → MR} {x : Nat → Nat → Value} (h : ModAt w v n M x) {b : Nat} (hb : foot v n x b) : b < w.heap.size := by
  rcases hb with hb | ⟨i, f, hi, hf, hb⟩
  · exact (h.row.lt _ hb).2
  · exact ((h.own i f hi hf).lt _ hb).2

/-- The model's blocks are as they were. -/
theorem ModAt.frame {w w' : World} {v : Value} {n : Nat} {M : Nat → MR} {x : Nat → Nat → Value} (h : ModAt w v n M x) (hb : ∀ b, foot v n x b → w'.heap[b]? = w.heap[b]?) : ModAt w' v n M x where
  row := owns_of_block h.row (fun b hk => hb b (Or.inl hk))
  own := fun i f hi hf => owns_of_block (h.own i f hi hf) (fun b hk => hb b (Or.inr ⟨i, f, hi, hf, hk⟩))
  uniq := h.uniq

theorem ModAt.below {w w' : World} {v : Value} {n : Nat} {M : Nat → MR} {x : Nat → Nat → Value} (h : ModAt w v n M x) (hb : Below w.heap.size w w') : ModAt w' v n M x :=
  h.frame (fun b hf => hb.block b (h.foot_lt hf))

def put1 {α : Type} (M : Nat → α) (i : Nat) (m : α) : Nat → α := fun j => if j = i then m else M j
theorem put1_same {α : Type} (M : Nat → α) (i : Nat) (m : α) : put1 M i m i = m := if_pos rfl
theorem put1_other {α : Type} (M : Nat → α) {i j : Nat} (m : α) (h : j ≠ i) : put1 M i m j = M j := if_neg h

/-- A plain cell of ledger i is set. -/
theorem ModAt.cell {w : World} {g n cap : Nat} {M : Nat → MR} {x : Nat → Nat → Value} (h : ModAt w (.slice (some ⟨g, 0, none⟩) n cap) n M x) {i p : Nat} (hi : i < n) (hp : p < 13) : w.cell? ⟨g, i * 13 + p, none⟩ = (mrC (M i) (x i))[p]? := by
  rw [h.row.cellAt _ (by omega), rows_get (s := 13) (f := fun i => mrC (M i) (x i)) n (fun _ _ => rfl) hi hp]
theorem ModAt.frozen {w : World} {g n cap : Nat} {M : Nat → MR} {x : Nat → Nat → Value} (h : ModAt w (.slice (some ⟨g, 0, none⟩) n cap) n M x) (j : Nat) : w.frozen? ⟨g, j, none⟩ = false := h.row.frozenAt j

theorem ModAt.store {w : World} {g n cap : Nat} {M : Nat → MR} {x : Nat → Nat → Value} (h : ModAt w (.slice (some ⟨g, 0, none⟩) n cap) n M x) {i p : Nat} (hi : i < n) (hp : p < 13) {u : Value} {m' : MR} (hm : mrC m' (x i) = (mrC (M i) (x i)).set p u) (hk : m'.k = (M i).k) (hc : m'.c = (M i).c) :
    ModAt (w.setCell ⟨g, i * 13 + p, none⟩ u) (.slice (some ⟨g, 0, none⟩) n cap) n (put1 M i m') x ∧ Framed w (foot (.slice (some ⟨g, 0, none⟩) n cap) n x) (w.setCell ⟨g, i * 13 + p, none⟩ u) (foot (.slice (some ⟨g, 0, none⟩) n cap) n x) := by
  obtain ⟨h1, h2⟩ := h.row.stored (i * 13 + p) u
  rw [rows_set (s := 13) (f := fun i => mrC (M i) (x i)) n (fun _ _ => rfl) hi hp (g := fun j => mrC (put1 M i m' j) (x j)) (fun j _ hj => by rw [put1_other _ _ hj]) (by rw [put1_same]; exact hm)] at h1
  refine ⟨⟨h1, fun j f hj hf => ?_, h.uniq⟩, ⟨rfl, rfl, rfl, by simp, fun b hb hn => h2.block b hb (fun e => hn (Or.inl (by simpa [Value.ownBlock] using e.symm))), fun b hb => Or.inl hb⟩⟩
  have := owns_of_block (w' := w.setCell ⟨g, i * 13 + p, none⟩ u) (h.own j f hj hf) (fun b hb => h2.block b ((h.own j f hj hf).lt _ hb).2 (fun e => h.inner hj hf hb (by simpa [Value.ownBlock] using e.symm)))
  by_cases hji : j = i
  · subst hji
    rw [put1_same, hk, hc]
    exact this
  · rw [put1_other _ _ hji]
    exact this

/-- One of the six slices of ledger i is laid anew: another value, in its old block or in a new one. -/
theorem ModAt.turn {w w' : World} {g n cap : Nat} {M : Nat → MR} {x : Nat → Nat → Value} (h : ModAt w (.slice (some ⟨g, 0, none⟩) n cap) n M x) {i f : Nat} (hi : i < n) (hf : f < 6) {u : Value} {k' : Nat} {c' : List Value}
    (hgr : w.grownBy w' (x i f).ownBlock) (hown : w'.ownsRow 0 (ety f) (esz f) u k' c') (hu : ∀ b, u.ownBlock = some b → (x i f).ownBlock = some b ∨ w.heap.size ≤ b) :
    ModAt (w'.setCell ⟨g, i * 13 + fpos f, none⟩ u) (.slice (some ⟨g, 0, none⟩) n cap) n (put1 M i { M i with k := put1 (M i).k f k', c := put1 (M i).c f c' }) (put1 x i (put1 (x i) f u)) ∧
      Framed w (foot (.slice (some ⟨g, 0, none⟩) n cap) n x) (w'.setCell ⟨g, i * 13 + fpos f, none⟩ u) (foot (.slice (some ⟨g, 0, none⟩) n cap) n (put1 x i (put1 (x i) f u))) := by
  have hglt : g < w.heap.size := (h.row.lt g rfl).2
  have hg' : w'.heap[g]? = w.heap[g]? := hgr.block g hglt (fun e => h.inner hi hf e.symm rfl)
  have hrow' := owns_of_block (w' := w') h.row (fun b hb => by
    obtain rfl : g = b := by simpa [Value.ownBlock] using hb
    exact hg')
  have hp : fpos f < 13 := by unfold fpos; split <;> decide
  obtain ⟨h1, h2⟩ := hrow'.stored (i * 13 + fpos f) u
  have hmm : mrC { M i with k := put1 (M i).k f k', c := put1 (M i).c f c' } (put1 (x i) f u) = (mrC (M i) (x i)).set (fpos f) u := by
    rcases (show f = 0 ∨ f = 1 ∨ f = 2 ∨ f = 3 ∨ f = 4 ∨ f = 5 by omega) with rfl | rfl | rfl | rfl | rfl | rfl <;> rfl
  rw [rows_set (s := 13) (f := fun i => mrC (M i) (x i)) n (fun _ _ => rfl) hi hp (g := fun j => mrC (put1 M i { M i with k := put1 (M i).k f k', c := put1 (M i).c f c' } j) (put1 x i (put1 (x i) f u) j)) (fun j _ hj => by rw [put1_other _ _ hj, put1_other _ _ hj]) (by rw [put1_same, put1_same]; exact hmm)] at h1
  have hune : u.ownBlock ≠ some g := fun e => by
    rcases hu g e with h3 | h3
    · exact h.inner hi hf h3 rfl
    · omega
  have hcase : ∀ j f', (j = i ∧ f' = f ∧ (put1 x i (put1 (x i) f u)) j f' = u) ∨ (¬ (j = i ∧ f' = f) ∧ (put1 x i (put1 (x i) f u)) j f' = x j f' ∧ (put1 M i { M i with k := put1 (M i).k f k', c := put1 (M i).c f c' } j).k f' = (M j).k f' ∧ (put1 M i { M i with k := put1 (M i).k f k', c := put1 (M i).c f c' } j).c f' = (M j).c f') := by
    intro j f'
    by_cases hj : j = i
    · subst hj
      by_cases hf' : f' = f
      · subst hf'
        exact Or.inl ⟨rfl, rfl, by rw [put1_same, put1_same]⟩
      · exact Or.inr ⟨fun e => hf' e.2, by rw [put1_same, put1_other _ _ hf'], by rw [put1_same]; exact put1_other _ _ hf', by rw [put1_same]; exact put1_other _ _ hf'⟩
    · exact Or.inr ⟨fun e => hj e.1, by rw [put1_other _ _ hj], by rw [put1_other _ _ hj], by rw [put1_other _ _ hj]⟩
  refine ⟨⟨h1, fun j f' hj hf' => ?_, fun j f' l f'' b hj hf' hl hf'' e1 e2 => ?_⟩, ⟨hgr.os, hgr.tape, hgr.output, by simpa using hgr.size, fun b hb hn => ?_, fun b hb => ?_⟩⟩
  · rcases hcase j f' with ⟨rfl, rfl, e⟩ | ⟨hne, e, ek, ec⟩
    · rw [e, put1_same]
      show (w'.setCell _ u).ownsRow 0 (ety f') (esz f') u (put1 _ f' k' f') (put1 _ f' c' f')
      rw [put1_same, put1_same]
      exact owns_of_block hown (fun b hb => Below.heap_setCell _ _ _ _ (fun e' => hune (by rw [hb]; simpa using e')))
    · rw [e, ek, ec]
      refine owns_of_block (h.own j f' hj hf') (fun b hb => ?_)
      rw [Below.heap_setCell _ _ _ _ (fun e' => h.inner hj hf' hb (by simpa [Value.ownBlock] using e'.symm))]
      exact hgr.block b ((h.own j f' hj hf').lt _ hb).2 (fun e' => hne (h.uniq _ _ _ _ b hj hf' hi hf hb e'.symm))
  · rcases hcase j f' with ⟨rfl, rfl, e⟩ | ⟨hne, e, _⟩
    · rw [e] at e1
      rcases hcase l f'' with ⟨rfl, rfl, e'⟩ | ⟨hne', e', _⟩
      · exact ⟨rfl, rfl⟩
      · rw [e'] at e2
        rcases hu b e1 with h3 | h3
        · exact h.uniq _ _ _ _ b hj hf' hl hf'' h3 e2
        · have := ((h.own l f'' hl hf'').lt _ e2).2
          omega
    · rw [e] at e1
      rcases hcase l f'' with ⟨rfl, rfl, e'⟩ | ⟨hne', e', _⟩
      · rw [e'] at e2
        rcases hu b e2 with h3 | h3
        · exact h.uniq _ _ _ _ b hj hf' hl hf'' e1 h3
        · have := ((h.own j f' hj hf').lt _ e1).2
          omega
      · rw [e'] at e2
        exact h.uniq _ _ _ _ b hj hf' hl hf'' e1 e2
  · rw [Below.heap_setCell _ _ _ _ (fun e' => hn (Or.inl (by simpa [Value.ownBlock] using e'.symm)))]
    exact hgr.block b hb (fun e' => hn (Or.inr ⟨i, f, hi, hf, e'.symm⟩))
  · rcases hb with hb | ⟨j, f', hj, hf', hb⟩
    · exact Or.inl (Or.inl hb)
    · rcases hcase j f' with ⟨rfl, rfl, e⟩ | ⟨hne, e, _⟩
      · rw [e] at hb
        rcases hu b hb with h3 | h3
        · exact Or.inl (Or.inr ⟨_, _, hj, hf', h3⟩)
        · exact Or.inr h3
      · rw [e] at hb
        exact Or.inl (Or.inr ⟨_, _, hj, hf', hb⟩)

def MR.fresh (nm : ByteArray) : MR := ⟨nm, 0, 0, 0, false, true, 0, fun _ => 0, fun _ => []⟩

/-- A ledger more. -/
theorem ModAt.push {w w' : World} {v : Value} {n : Nat} {M : Nat → MR} {x : Nat → Nat → Value} (h : ModAt w v n M x) {nm : ByteArray} {g cap : Nat}
    (hgr : w.grownBy w' v.ownBlock) (hown : w'.ownsRow 0 43 13 (.slice (some ⟨g, 0, none⟩) (n + 1) cap) (n + 1) (rows n (fun i => mrC (M i) (x i)) ++ mrC (MR.fresh nm) (fun _ => .slice none 0 0))) (hu : v.ownBlock = some g ∨ w.heap.size ≤ g) :
    ModAt w' (.slice (some ⟨g, 0, none⟩) (n + 1) cap) (n + 1) (put1 M n (MR.fresh nm)) (put1 x n (fun _ => .slice none 0 0)) ∧ Framed w (foot v n x) w' (foot (.slice (some ⟨g, 0, none⟩) (n + 1) cap) (n + 1) (put1 x n (fun _ => .slice none 0 0))) := by
  refine ⟨⟨?_, fun i f hi hf => ?_, fun i f j f' b hi hf hj hf' e1 e2 => ?_⟩, ⟨hgr.os, hgr.tape, hgr.output, hgr.size, fun b hb hn => hgr.block b hb (fun e => hn (Or.inl e.symm)), fun b hb => ?_⟩⟩
  · rw [rows_succ, put1_same, put1_same, rows_congr (g := fun i => mrC (M i) (x i)) (fun i hi => by rw [put1_other _ _ (by omega), put1_other _ _ (by omega)])]
    exact hown
  · by_cases hin : i = n
    · subst hin
      rw [put1_same, put1_same]
      exact World.ownsRow_nil _ _ _ _
    · rw [put1_other _ _ hin, put1_other _ _ hin]
      exact owns_of_block (h.own i f (by omega) hf) (fun b hb => hgr.block b ((h.own i f (by omega) hf).lt _ hb).2 (fun e => h.inner (by omega) hf hb e.symm))
  · by_cases hin : i = n
    · subst hin
      rw [put1_same] at e1
      simp [Value.ownBlock] at e1
    · rw [put1_other _ _ hin] at e1
      by_cases hjn : j = n
      · subst hjn
        rw [put1_same] at e2
        simp [Value.ownBlock] at e2
      · rw [put1_other _ _ hjn] at e2
        exact h.uniq _ _ _ _ b (by omega) hf (by omega) hf' e1 e2
  · rcases hb with hb | ⟨i, f, hi, hf, hb⟩
    · obtain rfl : g = b := by simpa [Value.ownBlock] using hb
      rcases hu with hu | hu
      · exact Or.inl (Or.inl hu)
      · exact Or.inr hu
    · by_cases hin : i = n
      · subst hin
        rw [put1_same] at hb
        simp [Value.ownBlock] at hb
      · rw [put1_other _ _ hin] at hb
        exact Or.inl (Or.inr ⟨i, f, by omega, hf, hb⟩)

/-! What the plain ledgers are to the model. -/
def asubC (i : Nat) (s : PSub) : List Value := [.int .i64 ((i : Int) + 1), .string s.team, .string s.tid, .int .i64 s.task, .string s.comp, .int .i64 s.off, .int .i64 s.size, .int .i64 s.mins, .bool s.cnt]
def asubs (T : List PSub) : List Value := rows T.length fun i => asubC i (subAt T i)
def keyAt (K : List (ByteArray × Int)) (i : Nat) : ByteArray × Int := K.getD i (ByteArray.empty, 0)
def keyC (x : ByteArray × Int) : List Value := [.string x.1, .int .i64 x.2]
def keysC (K : List (ByteArray × Int)) : List Value := rows K.length fun i => keyC (keyAt K i)
def idV (i : Nat) : Value := .int .i64 ((i : Int) + 1)

def ofK (m : PLed) : Nat → Nat
  | 0 => m.disq.length
  | 1 => m.subs.length
  | 2 => m.solved.length
  | 3 => m.queue.length
  | _ => m.recs.length
def ofC (m : PLed) : Nat → List Value
  | 0 => m.disq.map .string
  | 1 => asubs m.subs
  | 2 => keysC m.solved
  | 3 => m.queue.map idV
  | 4 => m.recs.map fun r => idV r.1
  | _ => m.recs.map fun r => .int .i64 r.2
def MR.of (m : PLed) : MR := ⟨m.name, m.st, m.en, m.fz, m.fzs, m.fro, m.shown, ofK m, ofC m⟩

theorem getD_append_left {α : Type} {l l' : List α} {d : α} {i : Nat} (h : i < l.length) : (l ++ l').getD i d = l.getD i d := by
  rw [List.getD_eq_getElem?_getD, List.getD_eq_getElem?_getD, List.getElem?_append_left h]
theorem getD_append_len {α : Type} {l : List α} {a d : α} : (l ++ [a]).getD l.length d = a := by
  rw [List.getD_eq_getElem?_getD, List.getElem?_append_right (Nat.le_refl _)]
  simp

theorem asubs_append (T : List PSub) (s : PSub) : asubs (T ++ [s]) = asubs T ++ asubC T.length s := by
  unfold asubs
  rw [List.length_append]
  show rows (T.length + 1) _ = _
  rw [rows_succ]
  congr 1
  · exact rows_congr (fun i hi => by unfold subAt; rw [getD_append_left hi])
  · unfold subAt
    rw [getD_append_len]
theorem keysC_append (K : List (ByteArray × Int)) (a : ByteArray × Int) : keysC (K ++ [a]) = keysC K ++ keyC a := by
  unfold keysC
  rw [List.length_append]
  show rows (K.length + 1) _ = _
  rw [rows_succ]
  congr 1
  · exact rows_congr (fun i hi => by unfold keyAt; rw [getD_append_left hi])
  · unfold keyAt
    rw [getD_append_len]

/-- The slices of the model say the ledgers Ls. -/
def IsMod (w : World) (v : Value) (Ls : List PLed) (x : Nat → Nat → Value) : Prop := ModAt w v Ls.length (fun i => MR.of (ledAt Ls i)) x

/-- The same to the six slices. -/
structure MR.Eq6 (a b : MR) : Prop where
  cells : ∀ x, mrC a x = mrC b x
  k : ∀ f, f < 6 → a.k f = b.k f
  c : ∀ f, f < 6 → a.c f = b.c f
theorem MR.Eq6.refl (a : MR) : a.Eq6 a := ⟨fun _ => rfl, fun _ _ => rfl, fun _ _ => rfl⟩
theorem MR.Eq6.of {a b : MR} (h : a = b) : a.Eq6 b := h ▸ MR.Eq6.refl a

theorem ModAt.congr {w : World} {v : Value} {n : Nat} {M M' : Nat → MR} {x : Nat → Nat → Value} (h : ModAt w v n M x) (he : ∀ i, i < n → (M i).Eq6 (M' i)) : ModAt w v n M' x where
  row := by
    have := h.row
    rw [rows_congr (g := fun i => mrC (M' i) (x i)) (fun i hi => (he i hi).cells _)] at this
    exact this
  own := fun i f hi hf => by rw [← (he i hi).k f hf, ← (he i hi).c f hf]; exact h.own i f hi hf
  uniq := h.uniq

theorem ledAt_set {Ls : List PLed} {i j : Nat} {m : PLed} (hi : i < Ls.length) : ledAt (Ls.set i m) j = if j = i then m else ledAt Ls j := by
  unfold ledAt
  rw [List.getD_eq_getElem?_getD, List.getD_eq_getElem?_getD, List.getElem?_set]
  by_cases hj : j = i
  · subst hj
    rw [if_pos rfl, if_pos hi, if_pos rfl]
    rfl
  · rw [if_neg (Ne.symm hj), if_neg hj]

/-- Ledger i has turned to m. -/
theorem ModAt.isMod {w : World} {v : Value} {Ls : List PLed} {x : Nat → Nat → Value} {i : Nat} {m : PLed} {M' : MR} (h : ModAt w v Ls.length (put1 (fun i => MR.of (ledAt Ls i)) i M') x) (hi : i < Ls.length) (hM : M'.Eq6 (MR.of m)) : IsMod w v (Ls.set i m) x := by
  unfold IsMod
  rw [List.length_set]
  refine h.congr (fun j hj => ?_)
  rw [ledAt_set hi]
  by_cases hji : j = i
  · subst hji
    rw [put1_same, if_pos rfl]
    exact hM
  · rw [put1_other _ _ hji, if_neg hji]
    exact MR.Eq6.refl _

theorem put1_put1 {α : Type} (M : Nat → α) (i : Nat) (m m' : α) : put1 (put1 M i m) i m' = put1 M i m' := by
  funext j
  unfold put1
  split <;> rfl

theorem MR.fresh_of (nm : ByteArray) : MR.fresh nm = MR.of (PLed.fresh nm) := by
  unfold MR.fresh MR.of PLed.fresh
  congr 1
  · funext f
    unfold ofK
    split <;> rfl
  · funext f
    unfold ofC
    split <;> rfl

theorem IsMod.push {w' : World} {v : Value} {Ls : List PLed} {nm : ByteArray} {x : Nat → Nat → Value} (h : ModAt w' v (Ls.length + 1) (put1 (fun i => MR.of (ledAt Ls i)) Ls.length (MR.fresh nm)) x) : IsMod w' v (Ls ++ [PLed.fresh nm]) x := by
  unfold IsMod
  rw [List.length_append]
  refine h.congr (fun j hj => ?_)
  unfold put1
  split
  · rename_i hj'
    subst hj'
    unfold ledAt
    rw [getD_append_len]
    exact MR.Eq6.of (MR.fresh_of nm)
  · unfold ledAt
    rw [getD_append_left (by omega)]
    exact MR.Eq6.refl _
end Go.Proofs.Qxb6616853aFmt
