import Derived.Test.Qxb6616853aAcc
namespace Go.Proofs.Qxb6616853a
open Go.RowKit

/-- The first k teams. -/
def Tl (S : Nat → ByteArray) (k : Nat) : List ByteArray := (List.range k).map S
theorem Tl_succ (S : Nat → ByteArray) (k : Nat) : Tl S (k + 1) = Tl S k ++ [S k] := by simp [Tl, List.range_succ]
theorem Tl_length (S : Nat → ByteArray) (k : Nat) : (Tl S k).length = k := by simp [Tl]
theorem teamAt_Tl {S : Nat → ByteArray} {k i : Nat} (h : i < k) : teamAt (Tl S k) i = S i := by
  unfold teamAt Tl
  rw [List.getD_eq_getElem?_getD]
  simp [h]

theorem IsLed.below {w w' : World} {B : Nat} {F : Nat → Prop} {L : Nat} {nm : ByteArray} {D T : List ByteArray} {Q : List Nat} (h : IsLed w F L nm D T Q) (hb : Below B w w') (hB : w.heap.size ≤ B) : IsLed w' F L nm D T Q := by
  obtain ⟨dm, sm, es, ck, vs, vq, ps, h⟩ := h
  exact ⟨dm, sm, es, ck, vs, vq, ps, h.frame (fun k hk => hb.block k (Nat.lt_of_lt_of_le (h.below k hk) hB)) hb.size⟩

theorem IsLed.lt {w : World} {F : Nat → Prop} {L : Nat} {nm : ByteArray} {D T : List ByteArray} {Q : List Nat} (h : IsLed w F L nm D T Q) : ∀ k, F k → k < w.heap.size := by
  obtain ⟨dm, sm, es, ck, vs, vq, ps, h⟩ := h
  exact h.below

/-- One ledger of the call's own. -/
def OneLed (w wr : World) (L : Nat) (nm : ByteArray) (D T : List ByteArray) (Q : List Nat) : Prop :=
  ∃ F, IsLed wr F L nm D T Q ∧ (∀ k, F k → w.heap.size ≤ k) ∧ Below w.heap.size w wr

theorem OneLed.step {w wr w' : World} {L : Nat} {nm : ByteArray} {D' T' : List ByteArray} {Q' : List Nat} {F : Nat → Prop} (hb : Below w.heap.size w wr) (hF : ∀ k, F k → w.heap.size ≤ k)
    (hp : ∃ F', IsLed w' F' L nm D' T' Q' ∧ Framed wr F w' F') : OneLed w w' L nm D' T' Q' := by
  obtain ⟨F', h1, h2⟩ := hp
  exact ⟨F', h1, h2.up hb.size hF, h2.below hb hb.size hF⟩

def OnePost (w : World) (L : Nat) (nm : ByteArray) (D T : List ByteArray) (Q : List Nat) (e : Ending) (w' : World) : Prop := e = .returned (.tuple #[]) ∧ OneLed w w' L nm D T Q

theorem one_submit {w wr : World} {L : Nat} {nm : ByteArray} {D T : List ByteArray} {Q : List Nat} (team : ByteArray) (h : OneLed w wr L nm D T Q) (hT : T.length ≤ 4096) (hQ : Q.length ≤ 4096) :
    Calls Try.prog 18 #[.pointer (some ⟨L, 0, none⟩), .string team] wr (OnePost w L nm D (T ++ [team]) (Q ++ [T.length])) := by
  obtain ⟨F, h1, h2, h3⟩ := h
  exact (zzSubmit_any wr F L nm D T Q team h1 hT hQ).mono fun e w' ⟨he, hp⟩ => ⟨he, OneLed.step h3 h2 hp⟩

theorem one_disq {w wr : World} {L : Nat} {nm : ByteArray} {D T : List ByteArray} {Q : List Nat} (code : ByteArray) (hc : code.size ≤ maxLen) (h : OneLed w wr L nm D T Q) (hQ : Q.length ≤ 4096) :
    Calls Try.prog 17 #[.pointer (some ⟨L, 0, none⟩), .string code] wr (OnePost w L nm (addS D code) T (dropQ T code Q)) := by
  obtain ⟨F, h1, h2, h3⟩ := h
  exact (zzDisqualify_any wr F L nm D T Q code h1 hc hQ).mono fun e w' ⟨he, hp⟩ => ⟨he, OneLed.step h3 h2 hp⟩

/-- Two ledgers of the call's own, apart. -/
def TwoLed (w wr : World) (L1 L2 : Nat) (nm : ByteArray) (D1 T1 : List ByteArray) (Q1 : List Nat) (D2 T2 : List ByteArray) (Q2 : List Nat) : Prop :=
  ∃ F1 F2, IsLed wr F1 L1 nm D1 T1 Q1 ∧ IsLed wr F2 L2 nm D2 T2 Q2 ∧ (∀ k, F1 k → ¬ F2 k) ∧ (∀ k, F1 k → w.heap.size ≤ k) ∧ (∀ k, F2 k → w.heap.size ≤ k) ∧ Below w.heap.size w wr

theorem TwoLed.swap {w wr : World} {L1 L2 : Nat} {nm : ByteArray} {D1 T1 : List ByteArray} {Q1 : List Nat} {D2 T2 : List ByteArray} {Q2 : List Nat} (h : TwoLed w wr L1 L2 nm D1 T1 Q1 D2 T2 Q2) : TwoLed w wr L2 L1 nm D2 T2 Q2 D1 T1 Q1 := by
  obtain ⟨F1, F2, h1, h2, h3, h4, h5, h6⟩ := h
  exact ⟨F2, F1, h2, h1, fun k a b => h3 k b a, h5, h4, h6⟩

theorem TwoLed.step {w wr w' : World} {L1 L2 : Nat} {nm : ByteArray} {D' T' : List ByteArray} {Q' : List Nat} {D2 T2 : List ByteArray} {Q2 : List Nat} {F1 F2 : Nat → Prop} (h2 : IsLed wr F2 L2 nm D2 T2 Q2) (h3 : ∀ k, F1 k → ¬ F2 k) (h4 : ∀ k, F1 k → w.heap.size ≤ k) (h5 : ∀ k, F2 k → w.heap.size ≤ k) (h6 : Below w.heap.size w wr)
    (hp : ∃ F', IsLed w' F' L1 nm D' T' Q' ∧ Framed wr F1 w' F') : TwoLed w w' L1 L2 nm D' T' Q' D2 T2 Q2 := by
  obtain ⟨F', k1, k2⟩ := hp
  exact ⟨F', F2, k1, h2.other k2 h3, h2.apartStep k2 h3, k2.up h6.size h4, h5, k2.below h6 h6.size h4⟩

def TwoLPost (w : World) (L1 L2 : Nat) (nm : ByteArray) (D1 T1 : List ByteArray) (Q1 : List Nat) (D2 T2 : List ByteArray) (Q2 : List Nat) (e : Ending) (w' : World) : Prop := e = .returned (.tuple #[]) ∧ TwoLed w w' L1 L2 nm D1 T1 Q1 D2 T2 Q2

theorem two_submit {w wr : World} {L1 L2 : Nat} {nm : ByteArray} {D1 T1 : List ByteArray} {Q1 : List Nat} {D2 T2 : List ByteArray} {Q2 : List Nat} (team : ByteArray) (h : TwoLed w wr L1 L2 nm D1 T1 Q1 D2 T2 Q2) (hT : T1.length ≤ 4096) (hQ : Q1.length ≤ 4096) :
    Calls Try.prog 18 #[.pointer (some ⟨L1, 0, none⟩), .string team] wr (TwoLPost w L1 L2 nm D1 (T1 ++ [team]) (Q1 ++ [T1.length]) D2 T2 Q2) := by
  obtain ⟨F1, F2, h1, h2, h3, h4, h5, h6⟩ := h
  exact (zzSubmit_any wr F1 L1 nm D1 T1 Q1 team h1 hT hQ).mono fun e w' ⟨he, hp⟩ => ⟨he, TwoLed.step h2 h3 h4 h5 h6 hp⟩

theorem two_submit' {w wr : World} {L1 L2 : Nat} {nm : ByteArray} {D1 T1 : List ByteArray} {Q1 : List Nat} {D2 T2 : List ByteArray} {Q2 : List Nat} (team : ByteArray) (h : TwoLed w wr L1 L2 nm D1 T1 Q1 D2 T2 Q2) (hT : T2.length ≤ 4096) (hQ : Q2.length ≤ 4096) :
    Calls Try.prog 18 #[.pointer (some ⟨L2, 0, none⟩), .string team] wr (TwoLPost w L1 L2 nm D1 T1 Q1 D2 (T2 ++ [team]) (Q2 ++ [T2.length])) :=
  (two_submit team h.swap hT hQ).mono fun _ _ ⟨he, hp⟩ => ⟨he, hp.swap⟩

theorem two_disq {w wr : World} {L1 L2 : Nat} {nm : ByteArray} {D1 T1 : List ByteArray} {Q1 : List Nat} {D2 T2 : List ByteArray} {Q2 : List Nat} (code : ByteArray) (hc : code.size ≤ maxLen) (h : TwoLed w wr L1 L2 nm D1 T1 Q1 D2 T2 Q2) (hQ : Q1.length ≤ 4096) :
    Calls Try.prog 17 #[.pointer (some ⟨L1, 0, none⟩), .string code] wr (TwoLPost w L1 L2 nm (addS D1 code) T1 (dropQ T1 code Q1) D2 T2 Q2) := by
  obtain ⟨F1, F2, h1, h2, h3, h4, h5, h6⟩ := h
  exact (zzDisqualify_any wr F1 L1 nm D1 T1 Q1 code h1 hc hQ).mono fun e w' ⟨he, hp⟩ => ⟨he, TwoLed.step h2 h3 h4 h5 h6 hp⟩

theorem two_disq' {w wr : World} {L1 L2 : Nat} {nm : ByteArray} {D1 T1 : List ByteArray} {Q1 : List Nat} {D2 T2 : List ByteArray} {Q2 : List Nat} (code : ByteArray) (hc : code.size ≤ maxLen) (h : TwoLed w wr L1 L2 nm D1 T1 Q1 D2 T2 Q2) (hQ : Q2.length ≤ 4096) :
    Calls Try.prog 17 #[.pointer (some ⟨L2, 0, none⟩), .string code] wr (TwoLPost w L1 L2 nm D1 T1 Q1 (addS D2 code) T2 (dropQ T2 code Q2)) :=
  (two_disq code hc h.swap hQ).mono fun _ _ ⟨he, hp⟩ => ⟨he, hp.swap⟩

theorem dropQ_le (T : List ByteArray) (code : ByteArray) (Q : List Nat) : (dropQ T code Q).length ≤ Q.length := List.length_filter_le _ _

/-! The plain law of the second statement. -/
def keep2 (S : Nat → ByteArray) (a b : ByteArray) (i : Nat) : Bool := !eqS (S i) a && !eqS (S i) b

theorem drop_range (S : Nat → ByteArray) (n : Nat) (p : Nat → Bool) (code : ByteArray) : dropQ (Tl S n) code ((List.range n).filter p) = (List.range n).filter fun i => p i && !eqS (S i) code := by
  unfold dropQ
  rw [List.filter_filter]
  apply List.filter_congr
  intro i hi
  rw [teamAt_Tl (List.mem_range.1 hi), Bool.and_comm]

theorem queue1 (S : Nat → ByteArray) (n : Nat) (a b : ByteArray) : dropQ (Tl S n) b (dropQ (Tl S n) a (List.range n)) = (List.range n).filter (keep2 S a b) := by
  have e : List.range n = (List.range n).filter (fun _ => true) := (List.filter_eq_self.2 (fun _ _ => rfl)).symm
  conv => lhs; rw [e]
  rw [drop_range, drop_range]
  rfl

theorem queue2 (S : Nat → ByteArray) (n : Nat) (a b : ByteArray) : dropQ (Tl S n) a (dropQ (Tl S n) a (dropQ (Tl S n) b (List.range n))) = (List.range n).filter (keep2 S a b) := by
  rw [queue1 S n b a]
  unfold keep2
  rw [drop_range]
  apply List.filter_congr
  intro i _
  cases eqS (S i) a <;> cases eqS (S i) b <;> rfl

theorem addS_mem {D : List ByteArray} {s : ByteArray} : s ∈ addS D s := by
  by_cases h : s ∈ D
  · rw [addS_old h]; exact h
  · rw [addS_new h]; simp
theorem addS_sub {D : List ByteArray} {s t : ByteArray} (h : t ∈ D) : t ∈ addS D s := by
  by_cases hs : s ∈ D
  · rw [addS_old hs]; exact h
  · rw [addS_new hs]; simp [h]
theorem addS_nil (a : ByteArray) : addS [] a = [a] := by rw [addS_new (by simp)]; rfl
theorem addS_len (a b : ByteArray) : (addS (addS [] a) b).length = if eqS a b then 1 else 2 := by
  rw [addS_nil]
  by_cases h : a = b
  · subst h
    rw [addS_old (by simp), if_pos (eqS_iff.2 rfl)]
    rfl
  · rw [addS_new (by simpa using fun e => h e.symm), if_neg (fun e => h (eqS_iff.1 e))]
    rfl
theorem addS_len2 (a b : ByteArray) : (addS (addS (addS [] b) a) a).length = if eqS a b then 1 else 2 := by
  rw [addS_old addS_mem, addS_len]
  have : eqS b a = eqS a b := by rw [Bool.eq_iff_iff, eqS_iff, eqS_iff]; exact ⟨fun h => h.symm, fun h => h.symm⟩
  rw [this]
/-- How many of the first k are kept. -/
def cnt2 (S : Nat → ByteArray) (a b : ByteArray) (k : Nat) : Nat := ((List.range k).filter (keep2 S a b)).length
theorem cnt2_yes {S : Nat → ByteArray} {a b : ByteArray} {k : Nat} (h : keep2 S a b k = true) : cnt2 S a b (k + 1) = cnt2 S a b k + 1 := by
  unfold cnt2
  rw [List.range_succ, List.filter_append]
  simp [h]
theorem cnt2_no {S : Nat → ByteArray} {a b : ByteArray} {k : Nat} (h : keep2 S a b k = false) : cnt2 S a b (k + 1) = cnt2 S a b k := by
  unfold cnt2
  rw [List.range_succ, List.filter_append]
  simp [h]
theorem cnt2_le (S : Nat → ByteArray) (a b : ByteArray) (k : Nat) : cnt2 S a b k ≤ k := by
  unfold cnt2
  exact Nat.le_trans (List.length_filter_le _ _) (by simp)

theorem TwoLed.bel {w wr : World} {L1 L2 : Nat} {nm : ByteArray} {D1 T1 : List ByteArray} {Q1 : List Nat} {D2 T2 : List ByteArray} {Q2 : List Nat} (h : TwoLed w wr L1 L2 nm D1 T1 Q1 D2 T2 Q2) : Below w.heap.size w wr := by
  obtain ⟨F1, F2, _, _, _, _, _, h6⟩ := h
  exact h6

end Go.Proofs.Qxb6616853a
