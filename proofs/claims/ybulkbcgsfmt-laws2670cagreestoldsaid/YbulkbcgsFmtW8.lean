import Derived.Test.YbulkbcgsFmtW7
namespace Go.Proofs.YbulkbcgsFmt
open Go.RowKit
open Ieee
set_option linter.unusedSimpArgs false
set_option linter.unusedVariables false

def sgn : Datum → Bool
  | .number s _ _ => s
  | .infinity s => s
  | .nan s _ => s

theorem sgn_word (neg : Bool) (r : Nat) (h : r < 2 ^ 63) : sgn (double.read (double.word neg r)) = neg := by
  rw [read_word _ _ h]
  split
  · rfl
  · split
    · rfl
    · split <;> rfl

theorem sgn_nearest (neg : Bool) (mag : Nat) (place : Int) : sgn (double.read (double.nearest neg mag place)) = neg := by
  unfold Format.nearest
  split
  · exact sgn_word _ _ (by decide)
  · exact sgn_word _ _ (Nat.lt_of_le_of_lt (Nat.min_le_right ..) (by rw [d_inf]; decide))

theorem not_above {x : Nat} {k : Int} (h : Fin (double.read x) k) (hk : k ≤ 1000) : double.order x 9218868437227405311 ≠ some .gt := by
  obtain ⟨s, m, p, e, hm⟩ := h
  unfold Format.order
  rw [e, read_WMax]
  simp only [Datum.order, ne_eq, Option.some.injEq]
  rw [Int.compare_eq_gt]
  intro hlt
  obtain ⟨u, hu⟩ : ∃ u, u = (p - min p 971).toNat := ⟨_, rfl⟩
  obtain ⟨v, hv⟩ : ∃ v, v = (971 - min p 971 : Int).toNat := ⟨_, rfl⟩
  rw [← hu, ← hv] at hlt
  have hle : m * 2 ^ u ≤ 9007199254740991 * 2 ^ v := by
    by_cases h0 : m = 0
    · subst h0; simp
    · have hm' := hm.resolve_left h0
      have h1 : m * 2 ^ u ≤ 2 ^ (m.log2 + 1 + u) := by
        rw [Nat.pow_add]; exact Nat.mul_le_mul_right _ (Nat.le_of_lt (lt_two_pow_log m))
      have h2 : 2 ^ (m.log2 + 1 + u) ≤ 2 ^ (52 + v) := Nat.pow_le_pow_right (by decide) (by omega)
      have h3 : 2 ^ (52 + v) ≤ 9007199254740991 * 2 ^ v := by rw [Nat.pow_add]; exact Nat.mul_le_mul_right _ (by decide)
      exact Nat.le_trans h1 (Nat.le_trans h2 h3)
  have hle' : ((m * 2 ^ u : Nat) : Int) ≤ ((9007199254740991 * 2 ^ v : Nat) : Int) := Int.ofNat_le.2 hle
  have hp : (0 : Int) ≤ ((m * 2 ^ u : Nat) : Int) := Int.natCast_nonneg _
  cases s
  · simp only [signed, Nat.shiftLeft_eq, if_true, if_false, Bool.false_eq_true] at hlt
    omega
  · simp only [signed, Nat.shiftLeft_eq, if_true, if_false, Bool.false_eq_true] at hlt
    omega

theorem ge_zero {x : Nat} {k : Int} (h : Fin (double.read x) k) (hs : sgn (double.read x) = false) : double.order x 0 = some .gt ∨ double.order x 0 = some .eq := by
  obtain ⟨s, m, p, e, hm⟩ := h
  rw [e] at hs
  have hs' : s = false := hs
  subst hs'
  unfold Format.order
  rw [e, read_W0]
  simp only [Datum.order, Option.some.injEq]
  rw [Int.compare_eq_gt, Int.compare_eq_eq]
  simp only [signed, Nat.shiftLeft_eq, if_true, if_false, Bool.false_eq_true, Nat.zero_mul]
  have hp : (0 : Int) ≤ ((m * 2 ^ (p - min p (-1074)).toNat : Nat) : Int) := Int.natCast_nonneg _
  omega

theorem finB_of {x : Nat} {k : Int} (h : Fin (double.read x) k) (hk : k ≤ 1000) (hs : sgn (double.read x) = false) : finB x = true := by
  have hg : geB x = true := (geB_iff x).2 (ge_zero h hs)
  rw [finB, hg, Bool.true_and, ← leB_eq x hg, fmt64]
  have := not_above h hk
  generalize double.order x 9218868437227405311 = o at this
  cases o with
  | none => rfl
  | some o => cases o <;> first | rfl | exact absurd rfl this

theorem sgn_int (n : Int) (h : 0 ≤ n) : sgn (double.read (floatOfInt .f64 n)) = false := by
  have e : floatOfInt .f64 n = Ieee.double.nearest (decide (n < 0)) n.natAbs 0 := rfl
  rw [e, sgn_nearest]
  exact decide_eq_false (by omega)

theorem finB_int (n : Int) (h0 : 0 ≤ n) (h1 : n < 4294967296) : finB (floatOfInt .f64 n) = true :=
  finB_of (fin_int n 31 h0 (by simpa using h1) (by omega)) (by omega) (sgn_int n h0)

theorem sum_int (n m : Int) (h0 : 0 ≤ n) (h1 : n < 4294967296) (h2 : 0 ≤ m) (h3 : m < 4294967296) : ∃ s, double.add (floatOfInt .f64 n) (floatOfInt .f64 m) = some s ∧ infB s = false := by
  obtain ⟨s, hs, fs⟩ := fin_add (k := 34) (fin_int n 31 h0 (by simpa using h1) (by omega)) (fin_int m 31 h2 (by simpa using h3) (by omega)) (by omega) (by omega) (by omega)
  refine ⟨s, hs, ?_⟩
  rw [infB, fmt64]
  have := not_above fs (by omega)
  generalize double.order s 9218868437227405311 = o at this
  cases o with
  | none => rfl
  | some o => cases o <;> first | rfl | exact absurd rfl this

theorem price_int (n : Int) (h0 : 0 ≤ n) (h1 : n < 4294967296) : ∃ q, double.div (floatOfInt .f64 n) 4636737291354636288 = some q ∧ finB q = true := by
  have f := fin_int n 31 h0 (by simpa using h1) (by omega)
  obtain ⟨q, hq, fq⟩ := fin_div (k := 80) f read_W100 (by decide) (by omega) (by omega) (by omega)
  refine ⟨q, hq, finB_of fq (by omega) ?_⟩
  have hs := sgn_int n h0
  obtain ⟨s, m, p, e, hm⟩ := f
  rw [e] at hs
  have hs' : s = false := hs
  subst hs'
  unfold Format.div at hq
  rw [e, read_W100] at hq
  simp only [Datum.quotient, show (7036874417766400 : Nat) ≠ 0 by decide, if_false] at hq
  cases hq
  exact sgn_nearest _ _ _

theorem base_all : ∀ k : _root_.Fin 101, 0 < k.val → pctB (floatOfInt .f64 (k.val : Int)) = true ∧ hunB (floatOfInt .f64 (k.val : Int)) = true := by
  decide +kernel

theorem base_ok (k : Int) (h0 : 1 ≤ k) (h1 : k ≤ 100) : pctB (floatOfInt .f64 k) = true ∧ hunB (floatOfInt .f64 k) = true := by
  have := base_all ⟨k.toNat, by omega⟩ (by simp only; omega)
  simp only [show ((k.toNat : Nat) : Int) = k by omega] at this
  exact this
end Go.Proofs.YbulkbcgsFmt
