import Derived.Test.Qxb6616853aDjp
import Derived.Deep.LoopGhost
namespace Go.Proofs.Qxb6616853a
open Go.RowKit
attribute [local go_sem ↓] Go.wp_at_zero Go.wp_at_succ

def DistPost (E : Nat → ByteArray) (code : ByteArray) (n : Nat) (w : World) (e : Ending) (w' : World) : Prop := e = .returned (.int .i64 (dist E code n : Nat)) ∧ Quiet w w'

set_option maxHeartbeats 4000000 in
theorem distinct_any (a : Option Addr) (len cap : Nat) (E : Nat → ByteArray) (code : ByteArray) (w : World) (h : IsStrs w a len cap E) (hl : len ≤ 4096) :
    Calls Try.prog 24 #[.slice a len cap, .string code] w (DistPost E code len w) := by
  obtain ⟨_, _, _, _, hc⟩ := h
  go_enter Try.func24, Try.ntmps24
  go_wp2
  go_loopw [5, 6] (fun d i wr => ∃ k : Nat, k ≤ len ∧ i = .int .i64 k ∧ d = .int .i64 (dist E code k : Nat) ∧ Quiet w wr) (fun _ i _ => len - (intOf i).toNat)
  case atStart => exact ⟨0, Nat.zero_le _, rfl, by rw [dist_zero]; rfl, Quiet.refl _⟩
  case round =>
    obtain ⟨k, hk, rfl, rfl, hq⟩ := hrel
    have hdl := dist_le E code k
    by_cases hlt : k < len
    · obtain ⟨b, off, rfl, hb, hcell⟩ := hc k hlt
      have d0 := (hq.cell ⟨b, off + k, none⟩).trans hcell
      have hall : ∀ j, j < len → w.cell? ⟨b, off + j, none⟩ = some (.string (E j)) := fun j hj => by
        obtain ⟨b', off', ha', _, hc'⟩ := hc j hj
        simp only [Option.some.injEq, Addr.mk.injEq, and_true] at ha'
        obtain ⟨rfl, rfl⟩ := ha'
        exact hc'
      have HALL : Hid _ := hall
      clear hall hc hcell
      cases hcd : eqS (E k) code
      · have hc1 : ((E k).toList == code.toList) = false := hcd
        have HCD : Hid _ := hcd
        clear hcd
        go_wp2
        go_loopw [7, 8] (fun sn i wx => ∃ j : Nat, j ≤ k ∧ i = .int .i64 j ∧ sn = .bool false ∧ (∀ t, t < j → eqS (E t) (E k) = false) ∧ Quiet w wx) (fun _ i _ => k - (intOf i).toNat)
        case atStart => exact ⟨0, Nat.zero_le _, rfl, rfl, fun t ht => absurd ht (Nat.not_lt_zero _), hq⟩
        case round =>
          rename World => wx
          obtain ⟨j, hj, rfl, rfl, hno, hqx⟩ := hrel
          have HNO : Hid _ := hno
          clear hno
          by_cases hjk : j < k
          · have x1 := (hqx.cell ⟨b, off + j, none⟩).trans (HALL.out j (by omega))
            have x2 := (hqx.cell ⟨b, off + k, none⟩).trans (HALL.out k hlt)
            have hj0 : (0 : Int) ≤ (j : Int) := by omega
            have hj1 : (j : Int) < (len : Int) := by omega
            have hk0 : (0 : Int) ≤ (k : Int) := by omega
            have hk1 : (k : Int) < (len : Int) := by omega
            cases he : eqS (E j) (E k)
            · have he1 : ((E j).toList == (E k).toList) = false := he
              have HEE : Hid _ := he
              clear he
              go_wp2
              go_region
              go_wp2
              go_roundw
              case rel =>
                exact ⟨j + 1, by omega, by go_num, rfl, fun t ht => by
                  by_cases htj : t = j
                  · subst htj; exact HEE.out
                  · exact HNO.out t (by omega), hqx.trans ⟨rfl, rfl, rfl, rfl⟩⟩
              case measure => simp [intOf]; omega
            · have he1 : ((E j).toList == (E k).toList) = true := he
              have HD : Hid _ := dist_seen (code := code) hjk he
              clear he
              go_wp2
              go_region
              go_wp2
              go_roundw
              case rel => exact ⟨k + 1, by omega, by go_num, by rw [HD.out], hqx.trans ⟨rfl, rfl, rfl, rfl⟩⟩
              case measure => simp [intOf]; omega
          · obtain rfl : j = k := by omega
            have HD : Hid _ := dist_new HCD.out HNO.out
            go_wp2
            go_roundw
            case rel => exact ⟨j + 1, by omega, by go_num, by rw [HD.out]; go_num, hqx⟩
            case measure => simp [intOf]; omega
      · have hc1 : ((E k).toList == code.toList) = true := hcd
        have HD : Hid _ := dist_code hcd
        clear hcd
        go_wp2
        go_roundw
        case rel => exact ⟨k + 1, by omega, by go_num, by rw [HD.out], hq⟩
        case measure => simp [intOf]; omega
    · obtain rfl : k = len := by omega
      clear hc
      go_wp2
      go_ret
      exact ⟨rfl, hq⟩
end Go.Proofs.Qxb6616853a
