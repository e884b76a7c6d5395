import Derived.Test.YbulkbcgeInsert
namespace Go.Proofs.Ybulkbcge
set_option linter.unusedSimpArgs false
set_option linter.unusedVariables false

/-- sorted by the handed order -/
def Srt (d : Bool) (l : List Int) : Prop := l.Pairwise (fun a b => kd d a ≤ kd d b)

structure PInv (d : Bool) (X : List (List Int)) (m : List Int) : Prop where
  flat : X.flatten = m
  srt : Srt d m
  len : ∀ xs ∈ X, 0 < xs.length ∧ xs.length ≤ 256
  low : X.length = 1 ∨ ∀ xs ∈ X, 64 ≤ xs.length

theorem srt_getD {d : Bool} {l : List Int} (h : Srt d l) (s t : Nat) (hst : s ≤ t) (ht : t < l.length) : kd d (l.getD s 0) ≤ kd d (l.getD t 0) := by
  by_cases e : s = t
  · subst e; exact Int.le_refl _
  · have := List.pairwise_iff_getElem.1 h s t (by omega) ht (by omega)
    simpa [show s < l.length by omega, ht] using this

theorem srt_last {d : Bool} {l : List Int} (h : Srt d l) (a : Int) (ha : a ∈ l) : kd d a ≤ kd d (l.getLastD 0) := by
  obtain ⟨i, hi, rfl⟩ := List.mem_iff_getElem.1 ha
  have := srt_getD h i (l.length - 1) (by omega) (by omega)
  rw [List.getLastD_eq_getLast?, List.getLast?_eq_getElem?]
  simpa [hi, show l.length - 1 < l.length by omega] using this

theorem PInv.chunk {d : Bool} {X : List (List Int)} {m : List Int} (h : PInv d X m) {xs : List Int} (hx : xs ∈ X) : Srt d xs := by
  have := h.srt
  rw [← h.flat, Srt, List.pairwise_flatten] at this
  exact this.1 xs hx

theorem mem_last {l : List Int} (h : 0 < l.length) : l.getLastD 0 ∈ l := by
  rw [List.getLastD_eq_getLast?, List.getLast?_eq_getElem?, List.getElem?_eq_getElem (by omega)]
  exact List.getElem_mem _

theorem PInv.lasts {d : Bool} {X : List (List Int)} {m : List Int} (h : PInv d X m) (s t : Nat) (hst : s ≤ t) (ht : t < X.length) : kd d ((X.getD s []).getLastD 0) ≤ kd d ((X.getD t []).getLastD 0) := by
  by_cases e : s = t
  · subst e; exact Int.le_refl _
  · have hp := h.srt
    rw [← h.flat, Srt, List.pairwise_flatten] at hp
    have h2 := List.pairwise_iff_getElem.1 hp.2 s t (by omega) ht (by omega)
    have e1 : X.getD s [] = X[s] := by simp [show s < X.length by omega]
    have e2 : X.getD t [] = X[t] := by simp [ht]
    rw [e1, e2]
    exact h2 _ (mem_last (h.len _ (List.getElem_mem _)).1) _ (mem_last (h.len _ (List.getElem_mem _)).1)

theorem srt_insAt {d : Bool} {m : List Int} {k : Nat} {v : Int} (h : Srt d m) (hlo : ∀ t, t < k → kd d (m.getD t 0) < kd d v) (hhi : k < m.length → kd d v ≤ kd d (m.getD k 0)) (hk : k ≤ m.length) : Srt d (insAt m k v) := by
  unfold Srt insAt
  rw [List.pairwise_append, List.pairwise_cons]
  have hlo' : ∀ a ∈ m.take k, kd d a < kd d v := fun a ha => by
    obtain ⟨i, hi, rfl⟩ := List.mem_iff_getElem.1 ha
    simp only [List.length_take] at hi
    have := hlo i (by omega)
    simpa [show i < m.length by omega] using this
  have hhi' : ∀ b ∈ m.drop k, kd d v ≤ kd d b := fun b hb => by
    obtain ⟨i, hi, rfl⟩ := List.mem_iff_getElem.1 hb
    simp only [List.length_drop] at hi
    have h1 := hhi (by omega)
    have h2 := srt_getD h k (k + i) (by omega) (by omega)
    have : m.getD (k + i) 0 = (m.drop k)[i]'(by simp; omega) := by simp [show k + i < m.length by omega]
    rw [← this]; omega
  refine ⟨List.Pairwise.take h, ⟨hhi', List.Pairwise.drop h⟩, fun a ha b hb => ?_⟩
  rcases List.mem_cons.1 hb with rfl | hb
  · exact Int.le_of_lt (hlo' a ha)
  · have := hlo' a ha; have := hhi' b hb; omega

theorem pstep {d : Bool} {v : Int} {X X' : List (List Int)} {m : List Int} {k : Nat} (h : PInv d X m) (hs : Xstep d v X X') (hk : k ≤ m.length) (hlo : ∀ t, t < k → kd d (m.getD t 0) < kd d v) (hhi : k < m.length → kd d v ≤ kd d (m.getD k 0)) :
    PInv d X' (insAt m k v) ∧ X'.length ≤ X.length + 1 := by
  obtain ⟨i, xs, j, hx, hj, hjlo, hjhi, hbef, haft, hX'⟩ := hs
  have hi : i < X.length := (List.getElem?_eq_some_iff.1 hx).1
  have hxm : xs ∈ X := List.mem_of_getElem? hx
  have hsplit : X = X.take i ++ xs :: X.drop (i + 1) := by
    conv => lhs; rw [← List.take_append_drop i X, List.drop_eq_getElem_cons hi]
    rw [(List.getElem?_eq_some_iff.1 hx).2]
  obtain ⟨X1, hX1⟩ : ∃ X1, X1 = X.take i := ⟨_, rfl⟩
  obtain ⟨X2, hX2⟩ : ∃ X2, X2 = X.drop (i + 1) := ⟨_, rfl⟩
  have hl1 : X1.length = i := by rw [hX1]; simp; omega
  rw [← hX1, ← hX2] at hsplit
  have hm : m = X1.flatten ++ (xs ++ X2.flatten) := by rw [← h.flat, hsplit]; simp
  have hxl := h.len xs hxm
  -- what lies ahead of the place is below v
  have hA : ∀ a ∈ X1.flatten, kd d a < kd d v := fun a ha => by
    obtain ⟨ys, hys, hay⟩ := List.mem_flatten.1 ha
    obtain ⟨t, ht, rfl⟩ := List.mem_iff_getElem.1 hys
    have h1 := hbef t (by omega)
    have e : X.getD t [] = X1[t] := by rw [hsplit, List.getD_eq_getElem?_getD, List.getElem?_append_left ht, List.getElem?_eq_getElem ht]; rfl
    rw [e] at h1
    have hmem : X1[t] ∈ X := by rw [hsplit]; exact List.mem_append_left _ (List.getElem_mem _)
    have h2 := srt_last (h.chunk hmem) a hay
    omega
  obtain ⟨p, hp⟩ : ∃ p, p = X1.flatten.length + j := ⟨_, rfl⟩
  have hpl : p ≤ m.length := by rw [hm, hp]; simp; omega
  have hplo : ∀ t, t < p → kd d (m.getD t 0) < kd d v := fun t ht => by
    by_cases e : t < X1.flatten.length
    · have : m.getD t 0 = X1.flatten[t] := by
        rw [hm, List.getD_eq_getElem?_getD, List.getElem?_append_left e, List.getElem?_eq_getElem e]; rfl
      rw [this]; exact hA _ (List.getElem_mem _)
    · have : m.getD t 0 = xs.getD (t - X1.flatten.length) 0 := by
        rw [hm, List.getD_eq_getElem?_getD, List.getElem?_append_right (by omega), List.getElem?_append_left (by omega), ← List.getD_eq_getElem?_getD]
      rw [this]; exact hjlo _ (by omega)
  have hphi : p < m.length → kd d v ≤ kd d (m.getD p 0) := fun hlt => by
    by_cases e : j < xs.length
    · have : m.getD p 0 = xs.getD j 0 := by
        rw [hm, List.getD_eq_getElem?_getD, List.getElem?_append_right (by omega), List.getElem?_append_left (by omega), ← List.getD_eq_getElem?_getD]
        congr 1; omega
      rw [this]; exact hjhi j (Nat.le_refl _) e
    · exfalso
      have hj' : j = xs.length := by omega
      have hX2n : 0 < X2.length := by
        rcases Nat.eq_zero_or_pos X2.length with e0 | e0
        · have : X2 = [] := List.eq_nil_of_length_eq_zero e0
          rw [hm, this, hp] at hlt; simp at hlt; omega
        · exact e0
      have h1 := haft (by rw [hsplit]; simp; omega)
      have h2 := hjlo (xs.length - 1) (by omega)
      rw [List.getLastD_eq_getLast?, List.getLast?_eq_getElem?] at h1
      rw [List.getD_eq_getElem?_getD] at h2
      omega
  have hkp : k = p := by
    rcases Nat.lt_trichotomy k p with e | e | e
    · have h1 := hplo k e; have h2 := hhi (by omega); omega
    · exact e
    · have h1 := hlo p e; have h2 := hphi (by omega); omega
  have hins : insAt m k v = X1.flatten ++ (insAt xs j v ++ X2.flatten) := by
    rw [hkp, hp, hm]
    unfold insAt
    rw [List.take_append, List.drop_append]
    rw [List.take_of_length_le (by omega), List.drop_eq_nil_of_le (by omega : X1.flatten.length ≤ X1.flatten.length + j)]
    rw [show X1.flatten.length + j - X1.flatten.length = j by omega, List.take_append_of_le_length hj, List.drop_append_of_le_length hj]
    simp
  have hil := insAt_length xs j v hj
  have hsrt := srt_insAt h.srt hlo hhi hk
  have hmem12 : ∀ ys, ys ∈ X1 ∨ ys ∈ X2 → ys ∈ X := fun ys hy => by rw [hsplit]; rcases hy with hy | hy <;> simp [hy]
  have hlen12 : X.length = X1.length + 1 + X2.length := by rw [hsplit]; simp; omega
  by_cases hc : xs.length ≤ 255
  · rw [if_pos hc] at hX'
    have e : X' = X1 ++ insAt xs j v :: X2 := by
      rw [hX', hX1, hX2, List.set_eq_take_append_cons_drop, if_pos hi]
    refine ⟨⟨by rw [e, hins]; simp, hsrt, fun ys hys => ?_, ?_⟩, by rw [e, hlen12]; simp; omega⟩
    · rw [e] at hys
      simp only [List.mem_append, List.mem_cons] at hys
      rcases hys with hy | rfl | hy
      · exact h.len ys (hmem12 ys (.inl hy))
      · omega
      · exact h.len ys (hmem12 ys (.inr hy))
    · rcases h.low with h1 | h1
      · left; rw [e]; simp; omega
      · right
        intro ys hys
        rw [e] at hys
        simp only [List.mem_append, List.mem_cons] at hys
        rcases hys with hy | rfl | hy
        · exact h1 ys (hmem12 ys (.inl hy))
        · have := h1 xs hxm; omega
        · exact h1 ys (hmem12 ys (.inr hy))
  · rw [if_neg hc] at hX'
    have e : X' = X1 ++ (insAt xs j v).take 128 :: (insAt xs j v).drop 128 :: X2 := by rw [hX', hX1, hX2]
    have ht : ((insAt xs j v).take 128).length = 128 := by simp; omega
    have hd : ((insAt xs j v).drop 128).length = 129 := by simp; omega
    refine ⟨⟨by rw [e, hins]; simp [← List.append_assoc], hsrt, fun ys hys => ?_, .inr (fun ys hys => ?_)⟩, by rw [e, hlen12]; simp; omega⟩
    · rw [e] at hys
      simp only [List.mem_append, List.mem_cons] at hys
      rcases hys with hy | rfl | rfl | hy
      · exact h.len ys (hmem12 ys (.inl hy))
      · omega
      · omega
      · exact h.len ys (hmem12 ys (.inr hy))
    · rw [e] at hys
      simp only [List.mem_append, List.mem_cons] at hys
      rcases hys with hy | rfl | rfl | hy
      · rcases h.low with h1 | h1
        · have : X1 = [] := List.eq_nil_of_length_eq_zero (by omega)
          rw [this] at hy; simp at hy
        · exact h1 ys (hmem12 ys (.inl hy))
      · omega
      · omega
      · rcases h.low with h1 | h1
        · have : X2 = [] := List.eq_nil_of_length_eq_zero (by omega)
          rw [this] at hy; simp at hy
        · exact h1 ys (hmem12 ys (.inr hy))

theorem flat_getD (X : List (List Int)) (t j : Nat) (ht : t < X.length) (hj : j < (X.getD t []).length) : X.flatten.getD ((X.take t).flatten.length + j) 0 = (X.getD t []).getD j 0 := by
  have e : X = X.take t ++ X.getD t [] :: X.drop (t + 1) := by
    conv => lhs; rw [← List.take_append_drop t X, List.drop_eq_getElem_cons ht]
    simp [ht]
  have e2 : X.flatten = (X.take t).flatten ++ (X.getD t [] ++ (X.drop (t + 1)).flatten) := by
    conv => lhs; rw [e]
    simp
  rw [e2, List.getD_eq_getElem?_getD, List.getElem?_append_right (by omega), List.getElem?_append_left (by omega), ← List.getD_eq_getElem?_getD]
  congr 1; omega

theorem take_flat_succ (X : List (List Int)) (t : Nat) (ht : t < X.length) : (X.take (t + 1)).flatten.length = (X.take t).flatten.length + (X.getD t []).length := by
  rw [List.take_succ_eq_append_getElem ht, List.flatten_append, List.length_append]
  simp only [List.flatten_cons, List.flatten_nil, List.append_nil]
  congr 1
  simp [ht]
theorem take_flat_le (X : List (List Int)) (t : Nat) : (X.take t).flatten.length ≤ X.flatten.length := by
  have e : X.flatten = (X.take t).flatten ++ (X.drop t).flatten := by rw [← List.flatten_append, List.take_append_drop]
  rw [e, List.length_append]
  omega
end Go.Proofs.Ybulkbcge
