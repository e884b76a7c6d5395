import Derived.Test.YbulkbcgsFmtCards
import Derived.Test.YbulkbcgsFmtFloat
import Derived.WalkKit
import Derived.WalkLawsBesides
import Derived.WalkSpells
import Derived.Outline
namespace Go.Proofs.YbulkbcgsFmt
open Go.RowKit
set_option linter.unusedSimpArgs false
set_option linter.unusedVariables false

/-- the store of a float (the kit has none) -/
theorem run_store_float {P : Program} {w : World} {a : Addr} {m : Mode} (k : FloatKind) (b : Nat) : (store a (.float k b) m).run P w = stored P w a (.float k b) m := run_store P w a _ m rfl

theorem fmt64 : FloatKind.f64.format = Ieee.double := rfl

/-- x >= 0, and x <= the greatest finite float -/
def geB (x : Nat) : Bool := (FloatKind.f64.format.order x 0 == some .gt || FloatKind.f64.format.order x 0 == some .eq)
def leB (x : Nat) : Bool := (FloatKind.f64.format.order x 9218868437227405311 == some .lt || FloatKind.f64.format.order x 9218868437227405311 == some .eq)
def finB (x : Nat) : Bool := geB x && leB x

theorem geB_iff (x : Nat) : geB x = true ↔ (Ieee.double.order x 0 = some .gt ∨ Ieee.double.order x 0 = some .eq) := by
  simp only [geB, fmt64, Bool.or_eq_true, beq_iff_eq]

theorem not_none (x y z : Nat) (h : Ieee.double.order x y ≠ none) (hz : (Ieee.double.read z).isNaN = false) : Ieee.double.order x z ≠ none := by
  unfold Ieee.Format.order at h ⊢
  cases hx : Ieee.double.read x <;> cases hzz : Ieee.double.read z <;> simp_all [Ieee.Datum.order, Ieee.Datum.isNaN]

theorem leB_eq (x : Nat) (h : geB x = true) : (!(FloatKind.f64.format.order x 9218868437227405311 == some .gt)) = leB x := by
  have h1 : Ieee.double.order x 0 ≠ none := by
    rcases (geB_iff x).1 h with e | e <;> rw [e] <;> simp
  have h2 := not_none x 0 9218868437227405311 h1 (by rw [read_WMax]; rfl)
  unfold leB
  rw [fmt64]
  generalize Ieee.double.order x 9218868437227405311 = o at h2
  cases o with
  | none => exact absurd rfl h2
  | some o => cases o <;> rfl

set_option maxHeartbeats 400000 in
theorem cfin16 (x : Nat) (w : World) : Calls Ybaf.prog 16 #[.float .f64 x] w fun e w' => e = .returned (.bool (finB x)) ∧ w' = w := by
  by_cases h1 : geB x = true
  · have h2 := h1
    unfold geB at h2
    have H : Hid (geB x = true) := h1
    clear h1
    go_enter Ybaf.func16, Ybaf.ntmps16
    go_wp2
    go_ret
    exact ⟨by rw [finB, H.out, Bool.true_and]; rfl, rfl⟩
  · rw [Bool.not_eq_true] at h1
    have h2 := h1
    unfold geB at h2
    have H : Hid (geB x = false) := h1
    clear h1
    go_enter Ybaf.func16, Ybaf.ntmps16
    go_wp2
    go_ret
    exact ⟨by rw [finB, H.out, Bool.false_and]; rfl, rfl⟩

set_option maxHeartbeats 400000 in
theorem isInf11 (x : Nat) (w : World) : Calls Ybaf.prog 11 #[.float .f64 x, .int .i64 1] w fun e w' => e = .returned (.bool (FloatKind.f64.format.order x 9218868437227405311 == some .gt)) ∧ w' = w := by
  go_enter Ybaf.func11, Ybaf.ntmps11
  go_wp2
  go_ret
  exact ⟨rfl, rfl⟩

set_option maxHeartbeats 400000 in
theorem fnn29 (x : Nat) (w : World) : Calls Ybaf.prog 29 #[.float .f64 x] w fun e w' => e = .returned (.bool (finB x)) ∧ w' = w := by
  by_cases h1 : geB x = true
  · have h2 := h1
    unfold geB at h2
    have H : Hid (geB x = true) := h1
    clear h1
    go_enter Ybaf.func29, Ybaf.ntmps29
    go_wp2_with (go_at_call 11; refine (isInf11 _ _).mono ?_; rintro e w' ⟨rfl, rfl⟩)
    go_ret
    exact ⟨by rw [finB, H.out, Bool.true_and, ← leB_eq x H.out]; rfl, rfl⟩
  · rw [Bool.not_eq_true] at h1
    have h2 := h1
    unfold geB at h2
    have H : Hid (geB x = false) := h1
    clear h1
    go_enter Ybaf.func29, Ybaf.ntmps29
    go_wp2_with (go_at_call 11; refine (isInf11 _ _).mono ?_; rintro e w' ⟨rfl, rfl⟩)
    go_ret
    exact ⟨by rw [finB, H.out, Bool.false_and]; rfl, rfl⟩

theorem frombits15 (w : World) : (callFunc 15 #[.int .u64 9218868437227405312]).run Ybaf.prog w = .ok (.value (.float .f64 9218868437227405312)) w := by kernel_rfl

set_option maxHeartbeats 400000 in
theorem inf9 (w : World) : Calls Ybaf.prog 9 #[.int .i64 1] w fun e w' => e = .returned (.float .f64 9218868437227405312) ∧ w' = w := by
  have h := frombits15
  go_enter Ybaf.func9, Ybaf.ntmps9
  go_wp2
  go_ret
  exact ⟨rfl, rfl⟩

/-- 'd.Minutes()', d above 0 -/
def minutesOf (d : Int) : Nat := (Ieee.double.add (floatOfInt .f64 (d / 60000000000)) ((Ieee.double.div (floatOfInt .f64 (d % 60000000000)) 4768169126130614272).getD 0)).getD 0

theorem fin_int (n : Int) (k : Nat) (h0 : 0 ≤ n) (h : n < 2 ^ (k + 1)) (hk : k ≤ 900) : Fin (Ieee.double.read (floatOfInt .f64 n)) (k + 1) := by
  have e : floatOfInt .f64 n = Ieee.double.nearest (decide (n < 0)) n.natAbs 0 := rfl
  rw [e]
  refine fin_ofNat _ k ?_ hk _
  have : ((n.natAbs : Nat) : Int) = n := by omega
  have h2 : ((n.natAbs : Nat) : Int) < ((2 ^ (k + 1) : Nat) : Int) := by rw [this]; push_cast; exact h
  exact Int.ofNat_lt.1 h2

theorem minutes_facts (d : Int) (h0 : 0 < d) (h1 : d ≤ 9223372036854775807) :
    ∃ q, Ieee.double.div (floatOfInt .f64 (d % 60000000000)) 4768169126130614272 = some q ∧ Ieee.double.add (floatOfInt .f64 (d / 60000000000)) q = some (minutesOf d) ∧ Fin (Ieee.double.read (minutesOf d)) 70 := by
  have fa : Fin (Ieee.double.read (floatOfInt .f64 (d / 60000000000))) 63 := (fin_int (d / 60000000000) 62 (by omega) (by simp; omega) (by omega)).mono (by omega)
  have fb : Fin (Ieee.double.read (floatOfInt .f64 (d % 60000000000))) 37 := (fin_int (d % 60000000000) 36 (by omega) (by simp; omega) (by omega)).mono (by omega)
  obtain ⟨q, hq, fq⟩ := fin_div (k := 54) fb read_6e10 (by decide) (by omega) (by omega) (by omega)
  obtain ⟨r, hr, fr⟩ := fin_add (k := 66) (a := 64) (fa.mono (by omega)) (fq.mono (by omega)) (by omega) (by omega) (by omega)
  have e : minutesOf d = r := by unfold minutesOf; rw [hq]; simp only [Option.getD_some]; rw [hr]; rfl
  exact ⟨q, hq, by rw [e]; exact hr, by rw [e]; exact fr.mono (by omega)⟩

set_option maxHeartbeats 400000 in
theorem minutes12 (d : Int) (h0 : 0 < d) (h1 : d ≤ 9223372036854775807) (w : World) : Calls Ybaf.prog 12 #[.int .i64 d] w fun e w' => e = .returned (.float .f64 (minutesOf d)) ∧ w = w' := by
  obtain ⟨q, hq, ha, _⟩ := minutes_facts d h0 h1
  have r1 := fun w => run_float_arith (P := Ybaf.prog) w .quo 22 .f64 _ _ q hq
  have r2 := fun w => run_float_arith (P := Ybaf.prog) w .add 22 .f64 _ _ (minutesOf d) ha
  clear hq ha
  go_enter Ybaf.func12, Ybaf.ntmps12
  go_wp2
  go_ret
  exact ⟨rfl, rfl⟩

/-- what 'Credits' gives -/
def earnOf (b : Nat) (n d : Int) : Nat := ((((Ieee.double.mul b (floatOfInt .f64 n)).bind fun x => Ieee.double.mul x (minutesOf d))).bind fun x => Ieee.double.div x 4636737291354636288).getD 0

theorem earn_facts (b : Nat) (n d : Int) (hb : Fin (Ieee.double.read b) 7) (hn0 : 0 ≤ n) (hn1 : n ≤ 9223372036854775807) (h0 : 0 < d) (h1 : d ≤ 9223372036854775807) :
    ∃ x y, Ieee.double.mul b (floatOfInt .f64 n) = some x ∧ Ieee.double.mul x (minutesOf d) = some y ∧ Ieee.double.div y 4636737291354636288 = some (earnOf b n d) ∧ (Ieee.double.read (earnOf b n d)).isNaN = false := by
  obtain ⟨_, _, _, fm⟩ := minutes_facts d h0 h1
  have fn : Fin (Ieee.double.read (floatOfInt .f64 n)) 64 := (fin_int n 63 hn0 (by simp; omega) (by omega)).mono (by omega)
  obtain ⟨x, hx, fx⟩ := fin_mul (k := 100) hb fn (by omega) (by omega) (by omega)
  obtain ⟨y, hy, ny⟩ := nn_mul fx fm
  obtain ⟨z, hz, nz⟩ := nn_div ny read_W100 (by decide)
  have e : earnOf b n d = z := by unfold earnOf; rw [hx]; simp only [Option.bind_some]; rw [hy]; simp only [Option.bind_some]; rw [hz]; rfl
  exact ⟨x, y, hx, hy, by rw [e]; exact hz, by rw [e]; exact nz⟩

set_option maxHeartbeats 400000 in
theorem credits13 (b : Nat) (n d : Int) (hb : Fin (Ieee.double.read b) 7) (hn0 : 0 ≤ n) (hn1 : n ≤ 9223372036854775807) (h0 : 0 < d) (h1 : d ≤ 9223372036854775807) (w : World) :
    Calls Ybaf.prog 13 #[.float .f64 b, .int .i64 n, .int .i64 d] w fun e w' => e = .returned (.float .f64 (earnOf b n d)) ∧ w = w' := by
  obtain ⟨x, y, hx, hy, hz, _⟩ := earn_facts b n d hb hn0 hn1 h0 h1
  have r1 := fun w => run_float_arith (P := Ybaf.prog) w .mul 22 .f64 _ _ x hx
  have r2 := fun w => run_float_arith (P := Ybaf.prog) w .mul 22 .f64 _ _ y hy
  have r3 := fun w => run_float_arith (P := Ybaf.prog) w .quo 22 .f64 _ _ _ hz
  clear hx hy hz hb
  go_enter Ybaf.func13, Ybaf.ntmps13
  go_wp2_with (first | (go_at_call 12; refine (minutes12 _ h0 h1 _).mono ?_; rintro e w' ⟨rfl, rfl⟩) | go_in)
  go_ret
  exact ⟨rfl, rfl⟩
end Go.Proofs.YbulkbcgsFmt
