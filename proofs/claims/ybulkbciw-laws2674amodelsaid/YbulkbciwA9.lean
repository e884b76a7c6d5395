import Derived.Test.YbulkbciwA8
import Derived.Test.YbulkbciwA1
namespace Go.Proofs.Ybulkbciw
open Go.RowKit
set_option linter.unusedSimpArgs false
set_option linter.unusedVariables false

/-- what a node costs: there; to be had; not to be had -/
def cost (zs : List Nat) (L : Nat) (v : Int) : Nat := if zs.getD v.toNat 0 = 0 then 0 else if zs.getD v.toNat 0 = 1 then 1 else L
def sortN (cs : List Nat) : List Nat := cs.mergeSort (fun a b => decide (a ≤ b))
theorem sortN_perm (cs : List Nat) : (sortN cs).Perm cs := List.mergeSort_perm _ _
theorem sortN_sorted (cs : List Nat) : (sortN cs).Pairwise (· ≤ ·) := by
  have h := List.pairwise_mergeSort (le := fun a b : Nat => decide (a ≤ b)) (fun a b c h1 h2 => by simp at *; omega) (fun a b => by simp; omega) cs
  exact h.imp (fun h => by simpa using h)
theorem sortN_eq {cs s : List Nat} (hp : s.Perm cs) (hs : s.Pairwise (· ≤ ·)) : sortN cs = s :=
  List.Perm.eq_of_pairwise (le := (· ≤ ·)) (fun a b _ _ h1 h2 => Nat.le_antisymm h1 h2) (sortN_sorted cs) hs ((sortN_perm cs).trans hp.symm)

/-- what a set of threshold a needs, its members' costs known -/
def need (D : Bool) (L a : Nat) (cs : List Nat) : Nat := if cs.length < a then L else if a = 0 then 0 else pick D L ((sortN cs).take a) 0
def valT (zs : List Nat) (L : Nat) : (d : Nat) → Bool → T d → Nat
  | 0 => fun _ x => nomatch x
  | d + 1 => fun D t => need (D || decide (flat (d + 1) t).Nodup) L t.1 (t.2.1.map (cost zs L) ++ t.2.2.map (valT zs L d (D || decide (flat (d + 1) t).Nodup)))

theorem cost_le (zs : List Nat) {L : Nat} (hL : 1 ≤ L) (v : Int) : cost zs L v ≤ L := by unfold cost; split <;> (try split) <;> omega
theorem pick_mem (L : Nat) : (l : List Nat) → (s : Nat) → (∀ c ∈ l, c ≤ L) → s ≤ L → pick false L l s ≤ L
  | [], s, _, h => h
  | c :: l, s, hc, h => pick_mem L l c (fun c' h' => hc c' (List.mem_cons_of_mem _ h')) (hc c (by simp))
theorem need_le {D : Bool} {L a : Nat} {cs : List Nat} (h : ∀ c ∈ cs, c ≤ L) : need D L a cs ≤ L := by
  unfold need
  split
  · omega
  · split
    · omega
    · cases D with
      | true => exact pick_le L _ 0 (Nat.zero_le _)
      | false => exact pick_mem L _ 0 (fun c hc => h c ((sortN_perm cs).mem_iff.1 (List.mem_of_mem_take hc))) (Nat.zero_le _)
theorem valT_le (zs : List Nat) {L : Nat} (hL : 1 ≤ L) : (d : Nat) → (D : Bool) → (t : T d) → valT zs L d D t ≤ L
  | 0, _, t => nomatch t
  | d + 1, D, t => need_le (fun c hc => by
    rcases List.mem_append.1 hc with h | h
    · obtain ⟨v, _, rfl⟩ := List.mem_map.1 h; exact cost_le zs hL v
    · obtain ⟨x, _, rfl⟩ := List.mem_map.1 h; exact valT_le zs hL d _ x)

/-- two neighbours change places -/
def swapN (l : List Nat) (j : Nat) : List Nat := (l.set (j + 1) (l.getD j 0)).set j (l.getD (j + 1) 0)
theorem swapN_get (l : List Nat) (j i : Nat) (hj : j + 1 < l.length) : (swapN l j).getD i 0 = if i = j then l.getD (j + 1) 0 else if i = j + 1 then l.getD j 0 else l.getD i 0 := by
  unfold swapN
  simp only [List.getD_eq_getElem?_getD, List.getElem?_set, List.length_set]
  by_cases h1 : i = j
  · subst h1
    simp [show i < l.length by omega]
  · by_cases h2 : i = j + 1
    · subst h2
      simp [show ¬ (j = j + 1) by omega, hj]
    · simp [show ¬ (j = i) from fun e => h1 e.symm, show ¬ (j + 1 = i) from fun e => h2 e.symm, h1, h2]
theorem swapN_perm (l : List Nat) (j : Nat) (hj : j + 1 < l.length) : (swapN l j).Perm l := by
  have e1 : l = l.take j ++ l[j] :: l[j + 1] :: l.drop (j + 2) := by
    rw [← List.drop_eq_getElem_cons, ← List.drop_eq_getElem_cons, List.take_append_drop]
  have e2 : swapN l j = l.take j ++ l[j + 1] :: l[j] :: l.drop (j + 2) := by
    apply List.ext_getElem?
    intro i
    unfold swapN
    rw [List.getD_eq_getElem?_getD, List.getD_eq_getElem?_getD, List.getElem?_eq_getElem hj, List.getElem?_eq_getElem (show j < l.length by omega)]
    simp only [Option.getD_some, List.getElem?_set, List.length_set, List.getElem?_append, List.length_take, List.getElem?_take]
    have hm : min j l.length = j := by omega
    rw [hm]
    by_cases h1 : i < j
    · simp [h1, show ¬ (j = i) by omega, show ¬ (j + 1 = i) by omega]
    · by_cases h2 : i = j
      · subst h2
        simp [show i < l.length by omega]
      · by_cases h3 : i = j + 1
        · subst h3
          simp [show ¬ (j = j + 1) by omega, hj]
          intro h
          omega
        · obtain ⟨r, rfl⟩ : ∃ r, i = j + 2 + r := ⟨i - (j + 2), by omega⟩
          simp [show ¬ (j = j + 2 + r) by omega, show ¬ (j + 1 = j + 2 + r) by omega, show ¬ (j + 2 + r < j) by omega, show j + 2 + r - j = r + 2 by omega]
  rw [e2]
  exact ((List.Perm.swap _ _ _).append_left (l.take j)).trans (List.Perm.of_eq e1.symm)

/-- sorted up to i, but for the one at j -/
def SortedBut (l : List Nat) (i j : Nat) : Prop := ∀ a b, a < b → b ≤ i → b ≠ j → l.getD a 0 ≤ l.getD b 0
theorem SortedBut.swap {l : List Nat} {i j : Nat} (h : SortedBut l i (j + 1)) (hj : j + 1 ≤ i) (hi : i < l.length) (hlt : l.getD (j + 1) 0 < l.getD j 0) : SortedBut (swapN l j) i j := by
  intro a b hab hb hbj
  rw [swapN_get l j a (by omega), swapN_get l j b (by omega)]
  have h1 := h a b hab hb
  by_cases e1 : b = j + 1
  · subst e1
    rw [show (if j + 1 = j then l.getD (j + 1) 0 else if j + 1 = j + 1 then l.getD j 0 else l.getD (j + 1) 0) = l.getD j 0 by simp]
    by_cases e2 : a = j
    · subst e2; rw [if_pos rfl]; omega
    · rw [if_neg e2, if_neg (by omega)]
      exact h a j (by omega) (by omega) (by omega)
  · rw [show (if b = j then l.getD (j + 1) 0 else if b = j + 1 then l.getD j 0 else l.getD b 0) = l.getD b 0 by simp [hbj, e1]]
    by_cases e2 : a = j
    · subst e2; rw [if_pos rfl]
      exact h (a + 1) b (by omega) hb e1
    · rw [if_neg e2]
      by_cases e3 : a = j + 1
      · subst e3; rw [if_pos rfl]
        exact h j b (by omega) hb e1
      · rw [if_neg e3]
        exact h1 e1
theorem SortedBut.done0 {l : List Nat} {i : Nat} (h : SortedBut l i 0) : ∀ a b, a < b → b ≤ i → l.getD a 0 ≤ l.getD b 0 := fun a b hab hb => h a b hab hb (by omega)
theorem SortedBut.done {l : List Nat} {i j : Nat} (h : SortedBut l i (j + 1)) (hj : j + 1 ≤ i) (hle : l.getD j 0 ≤ l.getD (j + 1) 0) : ∀ a b, a < b → b ≤ i → l.getD a 0 ≤ l.getD b 0 := by
  intro a b hab hb
  by_cases e : b = j + 1
  · subst e
    by_cases e2 : a = j
    · subst e2; exact hle
    · exact Nat.le_trans (h a j (by omega) (by omega) (by omega)) hle
  · exact h a b hab hb e
theorem sorted_of {l : List Nat} (h : ∀ a b, a < b → b < l.length → l.getD a 0 ≤ l.getD b 0) : l.Pairwise (· ≤ ·) := by
  rw [List.pairwise_iff_getElem]
  intro i j hi hj hij
  have := h i j hij hj
  rwa [List.getD_eq_getElem?_getD, List.getD_eq_getElem?_getD, List.getElem?_eq_getElem hi, List.getElem?_eq_getElem hj] at this
end Go.Proofs.Ybulkbciw
