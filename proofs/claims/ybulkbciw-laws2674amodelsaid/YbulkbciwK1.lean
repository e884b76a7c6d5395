import Derived.Test.YbulkbciwM1
import Derived.Test.YbulkbciwRows
import Derived.Outline
namespace Go.Proofs.Ybulkbciw
open Go.RowKit
set_option linter.unusedSimpArgs false
set_option linter.unusedVariables false

set_option maxHeartbeats 400000 in
theorem cmp42 (a b : Nat) (w : World) : Calls Yba.prog 42 #[.int .u64 a, .int .u64 b] w fun e w' => e = .returned (.int .i64 (cI (compare a b))) ∧ w' = w := by
  rcases Nat.lt_trichotomy a b with h | h | h
  · rw [show compare a b = .lt from Nat.compare_eq_lt.2 h]
    go_enter Yba.func42, Yba.ntmps42
    go_wp2
    go_ret
    exact ⟨rfl, rfl⟩
  · subst h
    rw [show compare a a = .eq from Nat.compare_eq_eq.2 rfl]
    go_enter Yba.func42, Yba.ntmps42
    go_wp2
    go_ret
    exact ⟨rfl, rfl⟩
  · rw [show compare a b = .gt from Nat.compare_eq_gt.2 h]
    go_enter Yba.func42, Yba.ntmps42
    go_wp2
    go_ret
    exact ⟨rfl, rfl⟩

set_option maxHeartbeats 400000 in
theorem cmp67 (a b : Int) (w : World) : Calls Yba.prog 67 #[.int .i64 a, .int .i64 b] w fun e w' => e = .returned (.int .i64 (cI (compare a b))) ∧ w' = w := by
  rcases Int.lt_trichotomy a b with h | h | h
  · rw [show compare a b = .lt by simp [compare, compareOfLessAndEq, h]]
    go_enter Yba.func67, Yba.ntmps67
    go_wp2
    go_ret
    exact ⟨rfl, rfl⟩
  · subst h
    rw [show compare a a = .eq by simp [compare, compareOfLessAndEq]]
    go_enter Yba.func67, Yba.ntmps67
    go_wp2
    go_ret
    exact ⟨rfl, rfl⟩
  · rw [show compare a b = .gt by simp [compare, compareOfLessAndEq, Int.not_lt.2 (Int.le_of_lt h), Int.ne_of_gt h]]
    go_enter Yba.func67, Yba.ntmps67
    go_wp2
    go_ret
    exact ⟨rfl, rfl⟩

/-- lists compared from place k on -/
theorem lex_at {α : Type} (cmp : α → α → Ordering) (x y : List α) (k : Nat) (h1 : k < x.length) (h2 : k < y.length) : List.compareLex cmp (x.drop k) (y.drop k) = (cmp x[k] y[k]).then (List.compareLex cmp (x.drop (k + 1)) (y.drop (k + 1))) := by
  rw [List.drop_eq_getElem_cons h1, List.drop_eq_getElem_cons h2, List.compareLex_cons_cons]
theorem lex_gt {α : Type} (cmp : α → α → Ordering) (x y : List α) (k : Nat) (h1 : k < x.length) (h2 : y.length ≤ k) : List.compareLex cmp (x.drop k) (y.drop k) = .gt := by
  rw [List.drop_eq_getElem_cons h1, List.drop_eq_nil_of_le h2]; rfl
theorem lex_lt {α : Type} (cmp : α → α → Ordering) (x y : List α) (k : Nat) (h1 : x.length ≤ k) (h2 : k < y.length) : List.compareLex cmp (x.drop k) (y.drop k) = .lt := by
  rw [List.drop_eq_getElem_cons h2, List.drop_eq_nil_of_le h1]; rfl
theorem lex_eq {α : Type} (cmp : α → α → Ordering) (x y : List α) (k : Nat) (h1 : x.length ≤ k) (h2 : y.length ≤ k) : List.compareLex cmp (x.drop k) (y.drop k) = .eq := by
  rw [List.drop_eq_nil_of_le h2, List.drop_eq_nil_of_le h1]; rfl

set_option maxHeartbeats 1000000 in
theorem cmp43 {S : Nat → Prop} (pu pv : Option Addr) (cu cv : Nat) (u v : List Int) (w : World) (hu : IntRow S w pu u) (hv : IntRow S w pv v) (lu : u.length ≤ 9223372036854775807) (lv : v.length ≤ 9223372036854775807) :
    Calls Yba.prog 43 #[.slice pu u.length cu, .slice pv v.length cv] w fun e w' => e = .returned (.int .i64 (cI (List.compareLex compare u v))) ∧ w' = w := by
  obtain ⟨nu, hnu⟩ : ∃ n, u.length = n := ⟨_, rfl⟩
  obtain ⟨nv, hnv⟩ : ∃ n, v.length = n := ⟨_, rfl⟩
  obtain ⟨R, hR⟩ : ∃ R, List.compareLex compare u v = R := ⟨_, rfl⟩
  have HU : Hid (IntRow S w pu u ∧ IntRow S w pv v ∧ u.length = nu ∧ v.length = nv ∧ List.compareLex compare u v = R) := ⟨hu, hv, hnu, hnv, hR⟩
  rw [hnu] at lu ⊢
  rw [hnv] at lv ⊢
  rw [hR]
  clear hu hv hnu hnv hR
  go_enter Yba.func43, Yba.ntmps43
  go_wp2
  go_loopw [11] (fun i wr => ∃ k : Nat, i = .int .i64 k ∧ k ≤ nu ∧ k ≤ nv ∧ wr = w ∧ List.compareLex compare (u.drop k) (v.drop k) = R) (fun i _ => nu - (intOf i).toNat)
  case atStart => exact ⟨0, rfl, Nat.zero_le _, Nat.zero_le _, rfl, HU.out.2.2.2.2⟩
  case round =>
    obtain ⟨k, rfl, hk, hkv, rfl, hrest⟩ := hrel
    have HR : Hid (List.compareLex compare (u.drop k) (v.drop k) = R) := hrest
    clear hrest
    obtain ⟨h1, h2, h3, h4, h5⟩ := HU.out
    by_cases hlt : k < nu
    · have hlu : k < u.length := by omega
      rcases h1 with h1 | ⟨b, rfl, _, hc⟩
      · rw [h1] at hlu; simp at hlu
      · have hcu := hc k hlu
        clear hc
        by_cases hltv : k < nv
        · have hlv : k < v.length := by omega
          rcases h2 with h2 | ⟨b2, rfl, _, hc2⟩
          · rw [h2] at hlv; simp at hlv
          · have hcv := hc2 k hlv
            clear hc2
            have HL := lex_at compare u v k hlu hlv
            have HL2 : Hid (_ = _) := HL
            clear HL
            generalize u[k] = x at hcu HL2
            generalize v[k] = y at hcv HL2
            clear h3 h4 h5
            cases hxy : compare x y with
            | lt =>
              have hR : R = .lt := by rw [← HR.out, HL2.out, hxy]; rfl
              subst hR
              go_wp2_with (go_at_call 67; refine (cmp67 x y wr).mono ?_; rw [hxy]; rintro e w2 ⟨rfl, e2⟩; obtain rfl := e2.symm)
              go_ret
              exact ⟨rfl, rfl⟩
            | gt =>
              have hR : R = .gt := by rw [← HR.out, HL2.out, hxy]; rfl
              subst hR
              go_wp2_with (go_at_call 67; refine (cmp67 x y wr).mono ?_; rw [hxy]; rintro e w2 ⟨rfl, e2⟩; obtain rfl := e2.symm)
              go_ret
              exact ⟨rfl, rfl⟩
            | eq =>
              have hR : List.compareLex compare (u.drop (k + 1)) (v.drop (k + 1)) = R := by rw [← HR.out, HL2.out, hxy]; rfl
              have HR2 : Hid (List.compareLex compare (u.drop (k + 1)) (v.drop (k + 1)) = R) := hR
              clear hR
              go_wp2_with (go_at_call 67; refine (cmp67 x y wr).mono ?_; rw [hxy]; rintro e w2 ⟨rfl, e2⟩; obtain rfl := e2.symm)
              go_roundw
              case rel => exact ⟨k + 1, by go_num, by omega, by omega, trivial, HR2.out⟩
              case measure => simp [intOf]; omega
        · obtain rfl : R = .gt := by rw [← HR.out]; exact lex_gt _ _ _ _ hlu (by omega)
          clear h2 h3 h4 h5
          go_wp2
          go_ret
          exact ⟨rfl, rfl⟩
    · by_cases hltv : k < nv
      · obtain rfl : R = .lt := by rw [← HR.out]; exact lex_lt _ _ _ _ (by omega) (by omega)
        clear h1 h2 h3 h4 h5
        go_wp2
        go_ret
        exact ⟨rfl, rfl⟩
      · obtain rfl : R = .eq := by rw [← HR.out]; exact lex_eq _ _ _ _ (by omega) (by omega)
        clear h1 h2 h3 h4 h5
        go_wp2
        go_ret
        exact ⟨rfl, rfl⟩
end Go.Proofs.Ybulkbciw
