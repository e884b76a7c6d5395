/- NO Go IN SIGHT: the least that a quorum set needs, by sorting and by counting. -/
import Derived.Test.YbulkbciwP1
namespace Go.Proofs.Ybulkbciw
set_option linter.unusedVariables false

/-- what a list of costs, cheapest first, comes to: together and capped, or the dearest -/
def pick (D : Bool) (L : Nat) : List Nat → Nat → Nat
  | [], s => s
  | c :: cs, s => pick D L cs (if D then min (s + c) L else c)

theorem pick_append (D : Bool) (L : Nat) : (l l' : List Nat) → (s : Nat) → pick D L (l ++ l') s = pick D L l' (pick D L l s)
  | [], _, _ => rfl
  | c :: l, l', s => pick_append D L l l' _
theorem pick_rep_true (L k : Nat) : (t s : Nat) → s ≤ L → pick true L (List.replicate t k) s = min (s + t * k) L
  | 0, s, h => by simp [pick]; omega
  | t + 1, s, h => by
    rw [List.replicate_succ]
    show pick true L (List.replicate t k) (min (s + k) L) = _
    rw [pick_rep_true L k t _ (by omega), Nat.add_mul]
    omega
theorem pick_rep_false (L k : Nat) : (t s : Nat) → 0 < t → pick false L (List.replicate t k) s = k
  | 0, s, h => by omega
  | 1, s, h => rfl
  | t + 2, s, h => by
    rw [List.replicate_succ]
    exact pick_rep_false L k (t + 1) k (by omega)
theorem pick_le (L : Nat) : (l : List Nat) → (s : Nat) → s ≤ L → pick true L l s ≤ L
  | [], s, h => h
  | c :: l, s, h => pick_le L l _ (by simp; omega)

/-- one step of the count: k's share -/
def share (D : Bool) (L k take s : Nat) : Nat := if take = 0 then s else if D then min (s + take * k) L else k
/-- counts, from k on, f of them left -/
def byCount (D : Bool) (L : Nat) (cnt : Nat → Nat) : (f k need s : Nat) → Nat
  | 0, _, _, s => s
  | f + 1, k, need, s => if need - min (cnt k) need = 0 then share D L k (min (cnt k) need) s else byCount D L cnt f (k + 1) (need - min (cnt k) need) (share D L k (min (cnt k) need) s)
/-- the list that the counts say -/
def groups (cnt : Nat → Nat) : (f k : Nat) → List Nat
  | 0, _ => []
  | f + 1, k => List.replicate (cnt k) k ++ groups cnt f (k + 1)

theorem share_eq (D : Bool) (L k t s : Nat) (h : s ≤ L) : share D L k t s = pick D L (List.replicate t k) s := by
  unfold share
  by_cases ht : t = 0
  · subst ht; simp [pick]
  · cases D with
    | true => simp [ht, pick_rep_true L k t s h]
    | false => simp [ht, pick_rep_false L k t s (by omega)]

theorem byCount_eq (D : Bool) (L : Nat) (cnt : Nat → Nat) : (f k need s : Nat) → s ≤ L → k + f ≤ L + 1 → byCount D L cnt f k need s = pick D L ((groups cnt f k).take need) s
  | 0, _, _, _, _, _ => by simp [byCount, groups, pick]
  | f + 1, k, need, s, h, hk => by
    unfold byCount groups
    have e1 : (List.replicate (cnt k) k ++ groups cnt f (k + 1)).take need = List.replicate (min (cnt k) need) k ++ (groups cnt f (k + 1)).take (need - min (cnt k) need) := by
      rw [List.take_append, List.take_replicate, List.length_replicate, Nat.min_comm need]
      congr 2
      omega
    have hs : share D L k (min (cnt k) need) s ≤ L := by
      unfold share
      split
      · exact h
      · split <;> omega
    rw [e1, pick_append, ← share_eq D L k _ s h]
    by_cases h0 : need - min (cnt k) need = 0
    · rw [if_pos h0, h0]
      rfl
    · rw [if_neg h0]
      exact byCount_eq D L cnt f (k + 1) _ _ hs (by omega)

theorem groups_mem (cnt : Nat → Nat) : (f k x : Nat) → x ∈ groups cnt f k → k ≤ x ∧ x < k + f
  | 0, _, _, h => by simp [groups] at h
  | f + 1, k, x, h => by
    unfold groups at h
    rcases List.mem_append.1 h with h | h
    · have := (List.mem_replicate.1 h).2; omega
    · have := groups_mem cnt f (k + 1) x h; omega
theorem groups_sorted (cnt : Nat → Nat) : (f k : Nat) → (groups cnt f k).Pairwise (· ≤ ·)
  | 0, _ => by simp [groups]
  | f + 1, k => by
    unfold groups
    rw [List.pairwise_append]
    refine ⟨List.pairwise_replicate.2 (.inr (Nat.le_refl _)), groups_sorted cnt f (k + 1), fun a ha b hb => ?_⟩
    have h1 := (List.mem_replicate.1 ha).2
    have h2 := groups_mem cnt f (k + 1) b hb
    omega
theorem groups_count (cnt : Nat → Nat) : (f k x : Nat) → (groups cnt f k).count x = if k ≤ x ∧ x < k + f then cnt x else 0
  | 0, k, x => by
    rw [if_neg (by omega)]
    simp [groups]
  | f + 1, k, x => by
    unfold groups
    rw [List.count_append, List.count_replicate, groups_count cnt f (k + 1) x]
    by_cases h1 : k = x
    · subst h1
      rw [if_pos (by simp), if_neg (by omega), if_pos (by omega), Nat.add_zero]
    · rw [if_neg (by simp [h1]), Nat.zero_add]
      by_cases h2 : k ≤ x ∧ x < k + (f + 1)
      · rw [if_pos h2, if_pos (by omega)]
      · rw [if_neg h2, if_neg (by omega)]

/-- counting and sorting pick the same -/
theorem count_sort (D : Bool) (L need : Nat) (cs s : List Nat) (hp : s.Perm cs) (hs : s.Pairwise (· ≤ ·)) (hL : ∀ c ∈ cs, c ≤ L) :
    byCount D L (fun k => cs.count k) (L + 1) 0 need 0 = pick D L (s.take need) 0 := by
  rw [byCount_eq D L _ (L + 1) 0 need 0 (Nat.zero_le _) (by omega)]
  have e : groups (fun k => cs.count k) (L + 1) 0 = s := by
    refine List.Perm.eq_of_pairwise (le := (· ≤ ·)) (fun a b _ _ h1 h2 => Nat.le_antisymm h1 h2) (groups_sorted _ _ _) hs ?_
    rw [List.perm_iff_count]
    intro x
    rw [groups_count, hp.count_eq]
    by_cases h : x ≤ L
    · rw [if_pos (by omega)]
    · rw [if_neg (by omega)]
      exact (List.count_eq_zero.2 (fun hx => h (hL x hx))).symm
  rw [e]
/-- the dearest of the first n: the n-th -/
theorem pick_last (L : Nat) : (l : List Nat) → (n s : Nat) → (h : n < l.length) → pick false L (l.take (n + 1)) s = l[n]
  | c :: l, 0, s, h => by simp [pick]
  | c :: l, n + 1, s, h => by
    rw [List.take_succ_cons]
    exact pick_last L l n c (by simpa using h)
end Go.Proofs.Ybulkbciw
