import Derived.Test.YbulkbcgsFmtW1
namespace Go.Proofs.YbulkbcgsFmt
open Go.RowKit
set_option linter.unusedSimpArgs false
set_option linter.unusedVariables false

/-- the row that 'Modes' makes -/
def modesObj : Obj := .cells #[.string ⟨#[115, 116, 97, 110, 100, 97, 114, 100]⟩, .string ⟨#[117, 110, 108, 105, 109, 105, 116, 101, 100]⟩] 29 (0, 0)

set_option maxHeartbeats 400000 in
theorem modes21 (w : World) : Calls Ybaf.prog 21 #[] w fun e w' => e = .returned (.slice (some ⟨w.heap.size, 0, none⟩) 2 2) ∧ w' = w.alloc modesObj := by
  go_enter Ybaf.func21, Ybaf.ntmps21
  go_wp2
  go_ret
  exact ⟨rfl, rfl⟩

/-- a mode that the ledger knows -/
def modeB (s : ByteArray) : Bool := s.toList == [115, 116, 97, 110, 100, 97, 114, 100] || s.toList == [117, 110, 108, 105, 109, 105, 116, 101, 100]

set_option maxHeartbeats 400000 in
theorem index27 (b : Nat) (s : ByteArray) (w : World) (c0 : w.cell? ⟨b, 0, none⟩ = some (.string ⟨#[115, 116, 97, 110, 100, 97, 114, 100]⟩)) (c1 : w.cell? ⟨b, 1, none⟩ = some (.string ⟨#[117, 110, 108, 105, 109, 105, 116, 101, 100]⟩)) :
    Calls Ybaf.prog 27 #[.slice (some ⟨b, 0, none⟩) 2 2, .string s] w fun e w' => (∃ i : Int, e = .returned (.int .i64 i) ∧ decide (0 ≤ i) = modeB s) ∧ w = w' := by
  by_cases h0 : (s.toList == [115, 116, 97, 110, 100, 97, 114, 100]) = true
  · have HM : Hid (modeB s = true) := (by rw [modeB, h0]; rfl : modeB s = true)
    go_enter Ybaf.func27, Ybaf.ntmps27
    go_wp2
    refine wp_loop_rounds 1 ?_
    rw [rounds_succ]
    go_wp2
    go_ret
    exact ⟨⟨0, rfl, by rw [HM.out]; rfl⟩, rfl⟩
  · rw [Bool.not_eq_true] at h0
    by_cases h1 : (s.toList == [117, 110, 108, 105, 109, 105, 116, 101, 100]) = true
    · have HM : Hid (modeB s = true) := (by rw [modeB, h0, h1]; rfl : modeB s = true)
      go_enter Ybaf.func27, Ybaf.ntmps27
      go_wp2
      refine wp_loop_rounds 2 ?_
      rw [rounds_succ]
      go_wp2
      rw [rounds_succ]
      go_wp2
      go_ret
      exact ⟨⟨1, rfl, by rw [HM.out]; rfl⟩, rfl⟩
    · rw [Bool.not_eq_true] at h1
      have HM : Hid (modeB s = false) := (by rw [modeB, h0, h1]; rfl : modeB s = false)
      go_enter Ybaf.func27, Ybaf.ntmps27
      go_wp2
      refine wp_loop_rounds 3 ?_
      rw [rounds_succ]
      go_wp2
      rw [rounds_succ]
      go_wp2
      rw [rounds_succ]
      go_wp2
      go_ret
      exact ⟨⟨-1, rfl, by rw [HM.out]; rfl⟩, rfl⟩

set_option maxHeartbeats 400000 in
theorem contains20 (b : Nat) (s : ByteArray) (w : World) (c0 : w.cell? ⟨b, 0, none⟩ = some (.string ⟨#[115, 116, 97, 110, 100, 97, 114, 100]⟩)) (c1 : w.cell? ⟨b, 1, none⟩ = some (.string ⟨#[117, 110, 108, 105, 109, 105, 116, 101, 100]⟩)) :
    Calls Ybaf.prog 20 #[.slice (some ⟨b, 0, none⟩) 2 2, .string s] w fun e w' => e = .returned (.bool (modeB s)) ∧ w = w' := by
  go_enter Ybaf.func20, Ybaf.ntmps20
  go_wp2_with (go_at_call 27; refine (index27 b s _ c0 c1).mono ?_; rintro e w' ⟨⟨i, rfl, hi⟩, rfl⟩; have HI : Hid (decide (0 ≤ i) = modeB s) := hi; clear hi)
  go_ret
  exact ⟨by rw [← HI.out]; rfl, rfl⟩
end Go.Proofs.YbulkbcgsFmt
