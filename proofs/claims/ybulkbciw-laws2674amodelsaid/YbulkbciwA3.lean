import Derived.Test.YbulkbciwA2
import Derived.BigQuiet
import Derived.Deep.QuietTactic
import Derived.Deep.RegionHeld3
namespace Go.Proofs.Ybulkbciw
open Go.RowKit Go.Shelf
set_option linter.unusedSimpArgs false
set_option linter.unusedVariables false

theorem wrap_pow {k : Nat} (h : k < 64) : IntKind.u64.wrap ((2 : Int) ^ k) = ((2 ^ k : Nat) : Int) := by
  have h1 : (2 : Nat) ^ k < 2 ^ 64 := Nat.pow_lt_pow_right (by decide) h
  have h2 : ((2 : Int) ^ k) = ((2 ^ k : Nat) : Int) := by simp
  rw [h2, IntKind.wrap_u64]
  generalize (2 : Nat) ^ k = p at h1
  omega
theorem and_pow (M k : Nat) : M &&& 2 ^ k = if M.testBit k then 2 ^ k else 0 := by
  apply Nat.eq_of_testBit_eq
  intro i
  rw [Nat.testBit_and, Nat.testBit_two_pow]
  by_cases h : k = i
  · subst h
    cases hb : M.testBit k <;> simp [hb]
  · cases hb : M.testBit k <;> simp [h]
theorem has_bit {M k : Nat} (hM : M < 18446744073709551616) (h : k < 64) : (bits .and .u64 (M : Int) (IntKind.u64.wrap ((2 : Int) ^ k)) != 0) = M.testBit k := by
  have h1 : (2 : Nat) ^ k < 2 ^ 64 := Nat.pow_lt_pow_right (by decide) h
  rw [wrap_pow h, bits_and_u64_nat M (2 ^ k) hM (by omega), and_pow]
  have hp : 0 < 2 ^ k := Nat.pow_pos (by decide)
  generalize (2 : Nat) ^ k = p at hp
  cases M.testBit k with
  | true => simp; omega
  | false => simp
theorem or_bit {M k : Nat} (hM : M < 18446744073709551616) (h : k < 64) : bits .or .u64 (M : Int) (IntKind.u64.wrap ((2 : Int) ^ k)) = ((M ||| 2 ^ k : Nat) : Int) := by
  have h1 : (2 : Nat) ^ k < 2 ^ 64 := Nat.pow_lt_pow_right (by decide) h
  rw [wrap_pow h, bits_or_u64_nat M (2 ^ k) hM (by omega)]

set_option maxHeartbeats 400000 in
theorem has36 (B M : Nat) (x : Fin 64) (w : World) (hc : w.cell? ⟨B, 0, none⟩ = some (.int .u64 (M : Int))) (hM : M < 18446744073709551616) :
    Calls Yba.prog 36 #[.slice (some ⟨B, 0, none⟩) 1 1, .int .i64 ((x : Nat) : Int)] w fun e w' => e = .returned (.bool (M.testBit x)) ∧ ∃ q, w' = w.drewN q := by
  obtain ⟨k, hk⟩ : ∃ k : Nat, (x : Nat) = k := ⟨_, rfl⟩
  have hk64 : k < 64 := by omega
  rw [hk]
  have h0 : (0 : Int) ≤ (k : Int) := by omega
  have h1 : ((k : Int)).tdiv 64 = 0 := by rw [Int.tdiv_eq_ediv_of_nonneg h0]; omega
  have h2 : ((k : Int)).tmod 64 = (k : Int) := by rw [Int.tmod_eq_emod_of_nonneg h0]; omega
  go_enter Yba.func36, Yba.ntmps36
  go_wp2
  go_quiet (fail)
  go_wp2
  go_ret
  refine ⟨?_, nq, rfl⟩
  rw [← has_bit hM hk64]
  rfl

set_option maxHeartbeats 400000 in
theorem add37 (B M : Nat) (x : Fin 64) (w : World) (hc : w.cell? ⟨B, 0, none⟩ = some (.int .u64 (M : Int))) (hf : w.frozen? ⟨B, 0, none⟩ = false) (hM : M < 18446744073709551616) :
    Calls Yba.prog 37 #[.slice (some ⟨B, 0, none⟩) 1 1, .int .i64 ((x : Nat) : Int)] w fun e w' => e = .returned (.tuple #[]) ∧ ∃ q, w' = (w.drewN q).setCell ⟨B, 0, none⟩ (.int .u64 ((M ||| 2 ^ (x : Nat) : Nat) : Int)) := by
  obtain ⟨k, hk⟩ : ∃ k : Nat, (x : Nat) = k := ⟨_, rfl⟩
  have hk64 : k < 64 := by omega
  rw [hk]
  have h0 : (0 : Int) ≤ (k : Int) := by omega
  have h1 : ((k : Int)).tdiv 64 = 0 := by rw [Int.tdiv_eq_ediv_of_nonneg h0]; omega
  have h2 : ((k : Int)).tmod 64 = (k : Int) := by rw [Int.tmod_eq_emod_of_nonneg h0]; omega
  have h3 := or_bit hM hk64
  go_enter Yba.func37, Yba.ntmps37
  go_wp2
  go_region
  go_end0
  exact ⟨rfl, 1, rfl⟩

theorem make64 (w : World) : (Instr.makeSlice 64 (.int .i64 1) (.int .i64 1)).run Yba.prog w = .ok (.slice (some ⟨w.heap.size, 0, none⟩) 1 1) (w.alloc (.cells #[.int .u64 0] 26)) := by
  obtain ⟨i, hi, hz⟩ := Option.map_eq_some_iff.1 (by kernel_rfl : (Yba.prog.info? 26).map (fun i => (i.zero, i.size, i.bytes)) = some (some (.int .u64 0), 1, 8))
  simp only [Prod.mk.injEq] at hz
  have h := run_make (P := Yba.prog) w 64 26 i (.int .u64 0) Yba.underlying64 hi hz.1 .i64 .i64 1 1 (by omega) (by omega) (by rw [hz.2.2]; omega) (by omega)
  simp only [hz.2.1, Nat.mul_one, Value.cells] at h
  have e : madeCells #[Value.int .u64 0] (Int.toNat 1) = #[Value.int .u64 0] := by simp [madeCells]; exact ⟨0, rfl, rfl⟩
  rw [e] at h
  exact h

set_option maxHeartbeats 400000 in
theorem new33 (n : Nat) (h1 : 1 ≤ n) (h2 : n ≤ 8) (w : World) : Calls Yba.prog 33 #[.int .i64 (n : Int)] w fun e w' => e = .returned (.slice (some ⟨w.heap.size, 0, none⟩) 1 1) ∧ w' = w.alloc (.cells #[.int .u64 0] 26) := by
  have hw : wrap64 ((n : Int) + 63) = (n : Int) + 63 := by unfold wrap64; omega
  have hd : ((n : Int) + 63).tdiv 64 = 1 := by rw [Int.tdiv_eq_ediv_of_nonneg (by omega)]; omega
  have hm := make64
  go_enter Yba.func33, Yba.ntmps33
  go_wp2
  go_ret
  exact ⟨rfl, rfl⟩
end Go.Proofs.Ybulkbciw
