import Derived.Test.YbulkbcgeRows
import Derived.Test.YbulkbcgeMem
import Derived.Outline
namespace Go.Proofs.Ybulkbcge
open Go.RowKit
set_option linter.unusedSimpArgs false
set_option linter.unusedVariables false

set_option maxHeartbeats 1600000 in
theorem check15_any (ga N C bm M cM : Nat) (G L Cc T : Nat → Nat) (E : Nat → Nat → Int) (w : World) (hN : N ≤ 100000) (hM : M ≤ 100000)
    (hT0 : T 0 = 0) (hTs : ∀ t, t < N → T (t + 1) = T t + L t) (hTN : T N = M) (hTle : ∀ t, t ≤ N → T t ≤ M)
    (hL : ∀ t, t < N → 0 < L t ∧ L t ≤ 256 ∧ (1 < N → 64 ≤ L t))
    (hca : ∀ t, t < N → w.cell? ⟨ga, t, none⟩ = some (.slice (some ⟨G t, 0, none⟩) (L t) (Cc t)))
    (hce : ∀ t, t < N → ∀ j, j < L t → w.cell? ⟨G t, j, none⟩ = some (.int .i64 (E t j)))
    (hcm : ∀ t, t < N → ∀ j, j < L t → w.cell? ⟨bm, T t + j, none⟩ = some (.int .i64 (E t j))) :
    Calls Yba.prog 15 #[.slice (some ⟨ga, 0, none⟩) N C, .slice (some ⟨bm, 0, none⟩) M cM] w fun e w' => e = .returned (.bool true) ∧ w' = w := by
  have H : Hid (T 0 = 0 ∧ (∀ t, t < N → T (t + 1) = T t + L t) ∧ T N = M ∧ (∀ t, t ≤ N → T t ≤ M) ∧ (∀ t, t < N → 0 < L t ∧ L t ≤ 256 ∧ (1 < N → 64 ≤ L t)) ∧
    (∀ t, t < N → w.cell? ⟨ga, t, none⟩ = some (.slice (some ⟨G t, 0, none⟩) (L t) (Cc t))) ∧ (∀ t, t < N → ∀ j, j < L t → w.cell? ⟨G t, j, none⟩ = some (.int .i64 (E t j))) ∧
    (∀ t, t < N → ∀ j, j < L t → w.cell? ⟨bm, T t + j, none⟩ = some (.int .i64 (E t j)))) := ⟨hT0, hTs, hTN, hTle, hL, hca, hce, hcm⟩
  clear hT0 hTs hTN hTle hL hca hce hcm
  go_enter Yba.func15, Yba.ntmps15
  go_wp2
  go_loop [5, 12] (fun tot i => ∃ t : Nat, t ≤ N ∧ i = .int .i64 t ∧ tot = .int .i64 (T t)) (fun _ i => N - (intOf i).toNat)
  case atStart => exact ⟨0, Nat.zero_le _, rfl, by rw [H.out.1]; rfl⟩
  case round =>
    obtain ⟨t, ht, rfl, rfl⟩ := hrel
    by_cases hlt : t < N
    · obtain ⟨g, hg⟩ : ∃ g, g = G t := ⟨_, rfl⟩
      obtain ⟨l, hl⟩ : ∃ l, l = L t := ⟨_, rfl⟩
      obtain ⟨c, hc⟩ : ∃ c, c = Cc t := ⟨_, rfl⟩
      obtain ⟨s, hs⟩ : ∃ s, s = T t := ⟨_, rfl⟩
      have hca := H.out.2.2.2.2.2.1 t hlt
      obtain ⟨hl1, hl2, hl3⟩ := H.out.2.2.2.2.1 t hlt
      have hsn : s + l ≤ M := by
        have h1 := H.out.2.1 t hlt
        have h2 := H.out.2.2.2.1 (t + 1) (by omega)
        omega
      rw [← hg, ← hl, ← hc] at hca
      rw [← hl] at hl1 hl2 hl3
      rw [← hs]
      have HQ : Hid (g = G t ∧ l = L t ∧ s = T t) := ⟨hg, hl, hs⟩
      clear hg hl hc hs
      have hz : ((l : Int) == 0) = false := by simp; omega
      have hz2 : ¬ ((256 : Int) < (l : Int)) := by omega
      have hz3 : decide ((256 : Int) < (l : Int)) = false := by simp; omega
      by_cases h1N : 1 < N
      · have hl4 := hl3 h1N
        have hz4 : ¬ ((l : Int) < 64) := by omega
        have hz5 : (1 : Int) < (N : Int) := by omega
        clear hl3
        go_wp2
        go_loop [5, 34] (fun tot i => ∃ j : Nat, j ≤ l ∧ i = .int .i64 j ∧ tot = .int .i64 ((s + j : Nat) : Int)) (fun _ i => l - (intOf i).toNat)
        case atStart => exact ⟨0, Nat.zero_le _, rfl, rfl⟩
        case round =>
          obtain ⟨j, hj, rfl, rfl⟩ := hrel
          by_cases hjl : j < l
          · obtain ⟨y, hy⟩ : ∃ y, y = E t j := ⟨_, rfl⟩
            have hc1 : w.cell? ⟨g, j, none⟩ = some (.int .i64 y) := by rw [hy, HQ.out.1]; exact H.out.2.2.2.2.2.2.1 t hlt j (by rw [← HQ.out.2.1]; exact hjl)
            have hc2 : w.cell? ⟨bm, s + j, none⟩ = some (.int .i64 y) := by rw [hy, HQ.out.2.2]; exact H.out.2.2.2.2.2.2.2 t hlt j (by rw [← HQ.out.2.1]; exact hjl)
            obtain ⟨p, hp⟩ : ∃ p, p = s + j := ⟨_, rfl⟩
            have hpM : p < M := by omega
            rw [← hp] at hc2 ⊢
            have HP : Hid (p = s + j) := hp
            clear hp hy
            have hq : ¬ ((M : Int) ≤ (p : Int)) := by omega
            have hq2 : decide ((M : Int) ≤ (p : Int)) = false := by simp; omega
            go_wp2
            go_round
            case rel => exact ⟨j + 1, by omega, by go_num, by have := HP.out; simp; omega⟩
            case measure => simp [intOf]; omega
          · obtain rfl : j = l := by omega
            have hse : s + j = T (t + 1) := by rw [H.out.2.1 t hlt, HQ.out.2.1, HQ.out.2.2]
            rw [hse]
            clear hse
            go_wp2
            go_round
            case rel => exact ⟨t + 1, by omega, by go_num, rfl⟩
            case measure => simp [intOf]; omega
      · have hz5 : decide ((1 : Int) < (N : Int)) = false := by simp; omega
        clear hl3
        go_wp2
        go_loop [5, 34] (fun tot i => ∃ j : Nat, j ≤ l ∧ i = .int .i64 j ∧ tot = .int .i64 ((s + j : Nat) : Int)) (fun _ i => l - (intOf i).toNat)
        case atStart => exact ⟨0, Nat.zero_le _, rfl, rfl⟩
        case round =>
          obtain ⟨j, hj, rfl, rfl⟩ := hrel
          by_cases hjl : j < l
          · obtain ⟨y, hy⟩ : ∃ y, y = E t j := ⟨_, rfl⟩
            have hc1 : w.cell? ⟨g, j, none⟩ = some (.int .i64 y) := by rw [hy, HQ.out.1]; exact H.out.2.2.2.2.2.2.1 t hlt j (by rw [← HQ.out.2.1]; exact hjl)
            have hc2 : w.cell? ⟨bm, s + j, none⟩ = some (.int .i64 y) := by rw [hy, HQ.out.2.2]; exact H.out.2.2.2.2.2.2.2 t hlt j (by rw [← HQ.out.2.1]; exact hjl)
            obtain ⟨p, hp⟩ : ∃ p, p = s + j := ⟨_, rfl⟩
            have hpM : p < M := by omega
            rw [← hp] at hc2 ⊢
            have HP : Hid (p = s + j) := hp
            clear hp hy
            have hq : ¬ ((M : Int) ≤ (p : Int)) := by omega
            have hq2 : decide ((M : Int) ≤ (p : Int)) = false := by simp; omega
            go_wp2
            go_round
            case rel => exact ⟨j + 1, by omega, by go_num, by have := HP.out; simp; omega⟩
            case measure => simp [intOf]; omega
          · obtain rfl : j = l := by omega
            have hse : s + j = T (t + 1) := by rw [H.out.2.1 t hlt, HQ.out.2.1, HQ.out.2.2]
            rw [hse]
            clear hse
            go_wp2
            go_round
            case rel => exact ⟨t + 1, by omega, by go_num, rfl⟩
            case measure => simp [intOf]; omega
    · obtain rfl : t = N := by omega
      have hse := H.out.2.2.1
      rw [hse]
      clear hse
      have hbb : ((M : Int) == (M : Int)) = true := by simp
      go_wp2
      go_ret
      exact ⟨rfl, rfl⟩
end Go.Proofs.Ybulkbcge
