import Derived.Test.YbulkbckmRows
import Derived.Test.YbulkbckmMem
import Derived.WalkKit
import Derived.WalkLawsBesides
import Derived.WalkSpells
import Derived.Outline
import Derived.Laws.Bits64b
namespace Go.Proofs.Ybulkbckm
open Go.RowKit
set_option linter.unusedSimpArgs false
set_option linter.unusedVariables false


theorem mask_small (a : Nat) (ha : a < 4294967296) : bits .and .u64 (a : Int) 4294967295 = (a : Int) := by
  have h := bits_and_u64_nat a 4294967295 (by omega) (by omega)
  have e : a &&& 4294967295 = a % 4294967296 := Nat.and_two_pow_sub_one_eq_mod a 32
  rw [e, Nat.mod_eq_of_lt ha] at h
  exact h

set_option maxHeartbeats 1000000 in
theorem mul15 (x y : Nat) (hx : x ≤ 4096) (hy : y ≤ 4096) (w : World) :
    Calls Yba.prog 15 #[.int .u64 x, .int .u64 y] w fun e w' => e = .returned (.tuple #[.int .u64 0, .int .u64 ((x * y : Nat) : Int)]) ∧ w' = w := by
  have hxy : x * y ≤ 16777216 := Nat.le_trans (Nat.mul_le_mul hx hy) (by decide)
  have m1 := mask_small x (by omega)
  have m2 := mask_small y (by omega)
  have m3 : bits .and .u64 0 4294967295 = 0 := mask_small 0 (by omega)
  have d1 : (x : Int) / 4294967296 = 0 := by omega
  have d2 : (y : Int) / 4294967296 = 0 := by omega
  have e1 : (x : Int) * (y : Int) = ((x * y : Nat) : Int) := (Int.natCast_mul x y).symm
  have d3 : ((x * y : Nat) : Int) / 4294967296 = 0 := by omega
  have w1 : IntKind.u64.wrap ((x * y : Nat) : Int) = ((x * y : Nat) : Int) := by rw [IntKind.wrap_u64]; omega
  generalize x * y = z at hxy e1 d3 w1 ⊢
  go_enter Yba.func15, Yba.ntmps15
  go_wp2
  go_ret2
  exact ⟨by simp [m1, m2, m3, d1, d2, e1, d3, w1], rfl⟩

set_option maxHeartbeats 1000000 in
theorem mul9 (x y : Nat) (hx : x ≤ 4096) (hy : y ≤ 4096) (w : World) :
    Calls Yba.prog 9 #[.int .u64 x, .int .u64 y] w fun e w' => e = .returned (.tuple #[.int .u64 0, .int .u64 ((x * y : Nat) : Int)]) ∧ w' = w := by
  go_enter Yba.func9, Yba.ntmps9
  go_wp2_with (go_at_call 15; refine (mul15 x y hx hy _).mono ?_; rintro e w' ⟨rfl, hw⟩; cases hw)
  go_ret2
  exact ⟨rfl, rfl⟩
end Go.Proofs.Ybulkbckm
