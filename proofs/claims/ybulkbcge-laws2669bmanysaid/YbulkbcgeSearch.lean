import Derived.Test.YbulkbcgeLeaf
import Derived.Deep.DeepFit
namespace Go.Proofs.Ybulkbcge
open Go.RowKit
set_option linter.unusedSimpArgs false
set_option linter.unusedVariables false

/-- the comparing closure as a value -/
def fv (bc bd : Nat) : Value := .func (.func 11) #[] #[.pointer (some ⟨bc, 0, none⟩), .pointer (some ⟨bd, 0, none⟩)]

set_option maxHeartbeats 800000 in
theorem bs18_any (g n c : Nat) (zs : List Int) (v : Int) (d : Bool) (bc bd : Nat) (q : Int) (w : World) (h : Tick bc bd d q w) (h0 : 0 ≤ q) (hq : q ≤ 100000000000) (hn : n ≤ 100000) (hgc : g ≠ bc)
    (hz : ∀ t, t < n → w.cell? ⟨g, t, none⟩ = some (.int .i64 (zs.getD t 0))) (hs : ∀ s t, s ≤ t → t < n → kd d (zs.getD s 0) ≤ kd d (zs.getD t 0)) :
    Calls Yba.prog 18 #[.slice (some ⟨g, 0, none⟩) n c, .int .i64 v, .func (.func 11) #[] #[.pointer (some ⟨bc, 0, none⟩), .pointer (some ⟨bd, 0, none⟩)]] w fun e w' =>
      ∃ (i : Nat) (f : Bool) (q' : Int), e = .returned (.tuple #[.int .i64 i, .bool f]) ∧ i ≤ n ∧ (∀ t, t < i → kd d (zs.getD t 0) < kd d v) ∧ (∀ t, i ≤ t → t < n → kd d v ≤ kd d (zs.getD t 0)) ∧
        Tick bc bd d q' w' ∧ q ≤ q' ∧ q' ≤ q + n + 1 ∧ (0 < n → q < q') ∧ Fr (· = bc) w w' := by
  go_enter Yba.func18, Yba.ntmps18
  go_wp2_with fail
  go_loopw [9, 10] (fun i j wr => ∃ (a b : Nat) (p : Int), i = .int .i64 a ∧ j = .int .i64 b ∧ a ≤ b ∧ b ≤ n ∧ (∀ t, t < a → kd d (zs.getD t 0) < kd d v) ∧ (∀ t, b ≤ t → t < n → kd d v ≤ kd d (zs.getD t 0)) ∧
      Tick bc bd d p wr ∧ q ≤ p ∧ p ≤ q + n - (b - a) ∧ (b - a < n → q < p) ∧ Fr (· = bc) w wr) (fun i j _ => (intOf j - intOf i).toNat)
  case atStart => exact ⟨0, n, q, rfl, rfl, Nat.zero_le _, Nat.le_refl _, by omega, by omega, h, by omega, by omega, by omega, Fr.refl _ _⟩
  case round =>
    obtain ⟨a, b, p, rfl, rfl, hab, hbn, hlo, hhi, hT, hp1, hp2, hp3, hF⟩ := hrel
    have hgl : ∀ t, t < n → g < w.heap.size := fun t ht => World.block_lt_of_cell? w _ (hz t ht)
    have hzr : ∀ t, t < n → wr.cell? ⟨g, t, none⟩ = some (.int .i64 (zs.getD t 0)) := fun t ht => by
      rw [hF.cell (p := ⟨g, t, none⟩) (hgl t ht) hgc]; exact hz t ht
    have HZ : Hid (∀ t, t < n → wr.cell? ⟨g, t, none⟩ = some (.int .i64 (zs.getD t 0))) := hzr
    have HS : Hid (∀ s t, s ≤ t → t < n → kd d (zs.getD s 0) ≤ kd d (zs.getD t 0)) := hs
    have HLO : Hid (∀ t, t < a → kd d (zs.getD t 0) < kd d v) := hlo
    have HHI : Hid (∀ t, b ≤ t → t < n → kd d v ≤ kd d (zs.getD t 0)) := hhi
    have HT : Hid (Tick bc bd d p wr) := hT
    have HF : Hid (Fr (· = bc) w wr) := hF
    clear hgl hzr hz hs hlo hhi hT hF h
    by_cases hlt : a < b
    · obtain ⟨m, hm⟩ : ∃ m, m = (a + b) / 2 := ⟨_, rfl⟩
      obtain ⟨y, hy⟩ : ∃ y, y = zs.getD m 0 := ⟨_, rfl⟩
      have hcell : wr.cell? ⟨g, (a + b) / 2, none⟩ = some (.int .i64 y) := by rw [HZ.out _ (by omega), hy, hm]
      have HM : Hid (m = (a + b) / 2 ∧ y = zs.getD m 0) := ⟨hm, hy⟩
      clear hm hy
      by_cases hc : cmpD y v d < 0
      · go_wp2_with (go_at_call 11; refine (f11_any _ _ _ _ _ _ _ HT.out (by omega) (by omega)).mono ?_; rintro e w1 ⟨rfl, hT1, hF1⟩)
        have HT1 : Hid (Tick bc bd d (p + 1) w1) := hT1
        have HF1 : Hid (Fr (· = bc) wr w1) := hF1
        clear hT1 hF1
        go_wp2
        go_roundw
        case rel =>
          obtain ⟨hm, hy⟩ := HM.out
          refine ⟨m + 1, b, p + 1, by subst hm; go_num, rfl, by omega, hbn, fun t ht => ?_, HHI.out, HT1.out, by omega, by omega, by omega, HF.out.trans HF1.out (fun _ _ e => e)⟩
          have := (cmpD_neg y v d).1 hc
          have := HS.out t m (by omega) (by omega)
          rw [hy] at *
          omega
        case measure => have := HM.out.1; simp [intOf]; omega
      · go_wp2_with (go_at_call 11; refine (f11_any _ _ _ _ _ _ _ HT.out (by omega) (by omega)).mono ?_; rintro e w1 ⟨rfl, hT1, hF1⟩)
        have HT1 : Hid (Tick bc bd d (p + 1) w1) := hT1
        have HF1 : Hid (Fr (· = bc) wr w1) := hF1
        clear hT1 hF1
        go_wp2
        go_roundw
        case rel =>
          obtain ⟨hm, hy⟩ := HM.out
          refine ⟨a, m, p + 1, rfl, by subst hm; go_num, by omega, by omega, HLO.out, fun t ht htn => ?_, HT1.out, by omega, by omega, by omega, HF.out.trans HF1.out (fun _ _ e => e)⟩
          have := mt (cmpD_neg y v d).2 (by omega)
          have := HS.out m t ht htn
          rw [hy] at *
          omega
        case measure => have := HM.out.1; simp [intOf]; omega
    · obtain rfl : a = b := by omega
      by_cases han : a < n
      · obtain ⟨y, hy⟩ : ∃ y, y = zs.getD a 0 := ⟨_, rfl⟩
        have hcell : wr.cell? ⟨g, a, none⟩ = some (.int .i64 y) := by rw [HZ.out _ han, hy]
        clear hy
        go_wp2_with (go_at_call 11; refine (f11_any _ _ _ _ _ _ _ HT.out (by omega) (by omega)).mono ?_; rintro e w1 ⟨rfl, hT1, hF1⟩)
        have HT1 : Hid (Tick bc bd d (p + 1) w1) := hT1
        have HF1 : Hid (Fr (· = bc) wr w1) := hF1
        clear hT1 hF1
        go_wp2
        go_ret2
        exact ⟨a, _, p + 1, rfl, by omega, HLO.out, HHI.out, HT1.out, by omega, by omega, by omega, HF.out.trans HF1.out (fun _ _ e => e)⟩
      · have hd : decide ((a : Int) < (n : Int)) = false := by simp; omega
        go_wp2
        go_ret2
        exact ⟨a, _, p, rfl, by omega, HLO.out, HHI.out, HT.out, by omega, by omega, by omega, HF.out⟩
end Go.Proofs.Ybulkbcge
