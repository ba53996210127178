import Derived.Test.Qxb6616853aRows
import Derived.Test.Qxb6616853aBase
import Derived.WalkKit
import Derived.ProofKit
import Derived.OpenShut
import Derived.ShutString
import Derived.ChangeOld
import Derived.Below
import Derived.SliceStrings
namespace Go.Proofs.Qxb6616853a
open Go.ChangeShapes Go.WideShapes Go.ChangeAt Go.RowKit
open Go.ChangeMaps (open_string shut_string)

theorem own : ownKnob Try.prog.godebug = none := by kernel_rfl
theorem laidOut : laidOutB Try.prog = true := by kernel_rfl

theorem opened {H : Type} {enc : TypeId × Value → H} {W : World} {spare : Nat → Bool} {held : Bool} {base : Nat} {a : Option Addr} {len cap fuel : Nat} {x : DataW H × List MemPlace}
    (hf : DataW.trod enc Try.prog W base spare held fuel 27 (Value.slice a len cap).cells.toList = some x) : ∃ S, IsStrs W a len cap S := by
  rcases open_strings Try.underlying27 Try.underlying9 (by kernel_rfl) hf with ⟨hcs, _⟩ | ⟨y, l, c, ss, hcs, _, hl, hm, hz, _, hcell, hws⟩
  · simp [Value.cells] at hcs
    obtain ⟨rfl, rfl, rfl⟩ := hcs
    exact ⟨fun _ => ByteArray.empty, Nat.le_refl _, Nat.zero_le _, fun _ => Nat.zero_le _, fun _ => ⟨rfl, rfl⟩, fun i hi => absurd hi (Nat.not_lt_zero _)⟩
  · simp [Value.cells] at hcs
    obtain ⟨rfl, rfl, rfl⟩ := hcs
    have hlen : len ≤ ss.length := by rw [hz]; split <;> omega
    refine ⟨fun i => ss.getD i ByteArray.empty, hl, hm, fun i => ?_, by simp, fun i hi => ?_⟩
    · show (ss.getD i ByteArray.empty).size ≤ maxLen
      rw [List.getD_eq_getElem?_getD]
      cases h : ss[i]? with
      | none => exact Nat.zero_le _
      | some s => exact hws s (List.mem_of_getElem? h)
    · obtain ⟨b, off, spot⟩ := y
      have h0 := hcell 0 (by omega)
      have hspot : spot = none := by
        simp only [Addr.add, if_pos] at h0
        unfold World.cell? at h0
        cases spot with
        | none => rfl
        | some q =>
          dsimp only at h0
          split at h0 <;> simp at h0
      subst hspot
      have hi' := hcell i (by omega)
      rw [Addr.add_lit] at hi'
      exact ⟨b, off, rfl, World.block_lt_of_cell? W _ hi', hi'⟩
end Go.Proofs.Qxb6616853a
