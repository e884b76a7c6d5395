import Derived.Test.YbulkbcgeInsert
namespace Go.Proofs.Ybulkbcge
open Go.RowKit
set_option linter.unusedSimpArgs false
set_option linter.unusedVariables false
attribute [local go_sem ↓] Go.wp_at_zero Go.wp_at_succ

theorem getD_map2 (K : List Chk) (t : Nat) : (K.map (·.2.2)).getD t [] = (K.getD t default).2.2 := by
  by_cases h : t < K.length
  · simp [h]
  · simp [h]
    rfl

theorem fin_keep {i0 i N g cap l j : Nat} {d : Bool} {v : Int} {xs : List Int} {K : List Chk} (hN : N = K.length) (hi0 : i0 = min i (N - 1)) (hNp : 0 < N) (hk : K[i0]? = some (g, cap, xs)) (hl : l = xs.length)
    (hlo : ∀ t, t < i → kd d ((K.getD t default).2.2.getLastD 0) < kd d v) (hhi : ∀ t, i ≤ t → t < N → kd d v ≤ kd d ((K.getD t default).2.2.getLastD 0))
    (hj : j ≤ xs.length) (hjlo : ∀ t, t < j → kd d (xs.getD t 0) < kd d v) (hjhi : ∀ t, j ≤ t → t < xs.length → kd d v ≤ kd d (xs.getD t 0)) :
    ∀ X', X' = (if xs.length ≤ 255 then (K.map (·.2.2)).set i0 (insAt xs j v) else (K.map (·.2.2)).take i0 ++ (insAt xs j v).take 128 :: (insAt xs j v).drop 128 :: (K.map (·.2.2)).drop (i0 + 1)) → Xstep d v (K.map (·.2.2)) X' := by
  intro X' hX
  refine ⟨i0, xs, j, by simp [hk], hj, hjlo, hjhi, fun t ht => ?_, fun hlt => ?_, hX⟩
  · rw [getD_map2]; exact hlo t (by omega)
  · simp only [List.length_map] at hlt
    have e : i0 = i := by omega
    have h1 := hhi i0 (by omega) (by omega)
    have e2 : (K.getD i0 default) = (g, cap, xs) := by simp [hk]
    rw [e2] at h1
    exact h1

set_option maxHeartbeats 1600000 in
/-- insert, into a chunked that holds a value -/
theorem insert13_some (base bC ga C : Nat) (K : List Chk) (v : Int) (d : Bool) (bc bd : Nat) (q : Int) (w : World) (h : Store base bC ga C K w) (hbase : base ≤ w.heap.size) (hbC : bC < base) (hbc : bc < base) (hbd : bd < base)
    (hT : Tick bc bd d q w) (h0 : 0 ≤ q) (hq : q ≤ 10000000000) (hbcC : bC ≠ bc) (hbdC : bC ≠ bd) (hK : ∀ k ∈ K, 0 < k.2.2.length ∧ k.2.2.length ≤ 256) (hK64 : K.length = 1 ∨ ∀ k ∈ K, 64 ≤ k.2.2.length) (hne : K ≠ []) (hn : K.length ≤ 10000)
    (hsr : ∀ k ∈ K, ∀ s t, s ≤ t → t < k.2.2.length → kd d (k.2.2.getD s 0) ≤ kd d (k.2.2.getD t 0))
    (hsl : ∀ s t, s ≤ t → t < K.length → kd d ((K.getD s default).2.2.getLastD 0) ≤ kd d ((K.getD t default).2.2.getLastD 0)) :
    Calls Yba.prog 13 #[.pointer (some ⟨bC, 0, none⟩), .int .i64 v, .func (.func 11) #[] #[.pointer (some ⟨bc, 0, none⟩), .pointer (some ⟨bd, 0, none⟩)]] w fun e w' =>
      e = .returned (.tuple #[]) ∧ ∃ ga' C' K' q', Store base bC ga' C' K' w' ∧ Xstep d v (K.map (·.2.2)) (K'.map (·.2.2)) ∧ Tick bc bd d q' w' ∧ q < q' ∧ q' ≤ q + 20000 ∧
        Fr (fun b => b = bC ∨ b = bc ∨ b = ga ∨ ∃ k ∈ K, k.1 = b) w w' ∧ ∀ k' ∈ K', (∃ k ∈ K, k.1 = k'.1) ∨ w.heap.size ≤ k'.1 := by
  have c1 := cell_of_one h.head
  have hS := store_sees h hbc hK
  obtain ⟨N, hN⟩ : ∃ N, N = K.length := ⟨_, rfl⟩
  have hNp : 0 < N := by rw [hN]; exact List.length_pos_iff.2 hne
  have hzN : ((N : Int) == 0) = false := by simp; omega
  have hwN : IntKind.i64.wrap ((N : Int) - 1) = (N : Int) - 1 := by rw [IntKind.wrap_i64]; omega
  rw [← hN] at c1 hS hn hsl
  have HA : Hid (Store base bC ga C K w ∧ N = K.length ∧ Tick bc bd d q w ∧ (∀ k ∈ K, 0 < k.2.2.length ∧ k.2.2.length ≤ 256) ∧ (∀ k ∈ K, ∀ s t, s ≤ t → t < k.2.2.length → kd d (k.2.2.getD s 0) ≤ kd d (k.2.2.getD t 0))) := ⟨h, hN, hT, hK, hsr⟩
  have H64 : Hid (K.length = 1 ∨ ∀ k ∈ K, 64 ≤ k.2.2.length) := hK64
  have HS : Hid (Sees w ga N bc (fun t => (K.getD t default).1) (fun t => (K.getD t default).2.2.length) (fun t => (K.getD t default).2.1) (fun t => (K.getD t default).2.2.getLastD 0)) := hS
  have HSL : Hid (∀ s t, s ≤ t → t < N → kd d ((K.getD s default).2.2.getLastD 0) ≤ kd d ((K.getD t default).2.2.getLastD 0)) := hsl
  clear h hS hN hT hK hsr hsl hne hK64
  go_enter Yba.func13, Yba.ntmps13
  go_wp2
  go_region_held3 (fun w' => w'.cell? ⟨bC, 0, none⟩ = some (.slice (some ⟨ga, 0, none⟩) N C)) (first | go_keep | (show _ = _; rw [hcC1]))
    ((first | (go_at_call 17; refine (sc17_any ga N C _ _ _ _ v d bc bd q w.drew HA.out.2.2.1.drew h0 (by omega) (by omega) (by exact (HS.out.kept ((Fr.refl _ w).drew))) HSL.out).mono ?_; rintro e w1 ⟨i, q1, rfl, hi, hlo, hhi, hT1, hq1, hq2, hq3, hF1⟩; have hcC1 : w1.cell? ⟨bC, 0, none⟩ = some (.slice (some ⟨ga, 0, none⟩) N C) := (by rw [hF1.cell (p := ⟨bC, 0, none⟩) (lt_of_block HA.out.1.head) (fun e => hbcC e)]; exact c1))))
  obtain ⟨i0, hi0⟩ : ∃ i0, i0 = min i (N - 1) := ⟨_, rfl⟩
  have hmin : (if (N : Int) - 1 < (i : Int) then (N : Int) - 1 else (i : Int)) = (i0 : Int) := by
    split <;> omega
  rw [hmin]
  have hi0N : i0 < N := by omega
  obtain ⟨⟨g, cap, xs⟩, hk⟩ : ∃ k, K[i0]? = some k := ⟨_, List.getElem?_eq_getElem (by rw [← HA.out.2.1]; exact hi0N)⟩
  have hF1' : Fr (· = bc) w w1 := hF1.ofDrew
  have hSt1 : Store base bC ga C K w1 := HA.out.1.kept hF1' hbcC (by have := own_base HA.out.1.row; omega) (fun k hk => by have := own_base (HA.out.1.chk k hk); omega)
  have hx := HA.out.2.2.2.1 _ (List.mem_of_getElem? hk)
  simp only at hx
  obtain ⟨hx1, hx2⟩ := hx
  have c2 := hSt1.cell hk
  simp only at c2
  obtain ⟨l, hl⟩ : ∃ l, l = xs.length := ⟨_, rfl⟩
  rw [← hl] at hx1 hx2 c2
  have HB : Hid (i0 = min i (N - 1) ∧ K[i0]? = some (g, cap, xs) ∧ Store base bC ga C K w1 ∧ l = xs.length ∧ Fr (· = bc) w w1 ∧ Tick bc bd d q1 w1 ∧ i ≤ N ∧ (∀ t, t < i → kd d ((K.getD t default).2.2.getLastD 0) < kd d v) ∧ (∀ t, i ≤ t → t < N → kd d v ≤ kd d ((K.getD t default).2.2.getLastD 0))) := ⟨hi0, hk, hSt1, hl, hF1', hT1, hi, hlo, hhi⟩
  have hq3' := hq3 hNp
  have HEL : Hid (∀ t, t < l → w1.cell? ⟨g, t, none⟩ = some (.int .i64 (xs.getD t 0))) := fun t ht => hSt1.elem (List.mem_of_getElem? hk) t (by rw [← hl]; exact ht)
  have HSR : Hid (∀ s t, s ≤ t → t < l → kd d (xs.getD s 0) ≤ kd d (xs.getD t 0)) := fun s t hs ht => HA.out.2.2.2.2 _ (List.mem_of_getElem? hk) s t hs (by rw [← hl]; exact ht)
  have hgbc : g ≠ bc := by have := own_base (HA.out.1.chk _ (List.mem_of_getElem? hk)); omega
  clear hmin hi0 hk hF1 hF1' hSt1 hl hT1 hi hlo hhi hq3 HS HSL
  go_wp2_with (go_at_call 18; refine (bs18_any g l cap xs v d bc bd q1 _ HB.out.2.2.2.2.2.1 (by omega) (by omega) (by omega) hgbc HEL.out HSR.out).mono ?_; rintro e w2 ⟨j, f, q2, rfl, hj, hjlo, hjhi, hT2, hq21, hq22, hq23, hF2⟩)
  have hSt2 : Store base bC ga C K w2 := HB.out.2.2.1.kept hF2 hbcC (by have := own_base HA.out.1.row; omega) (fun k hk => by have := own_base (HA.out.1.chk k hk); omega)
  have hF02 : Fr (· = bc) w w2 := HB.out.2.2.2.2.1.trans hF2 (fun _ _ e => e)
  have hb2 : base ≤ w2.heap.size := Nat.le_trans hbase hF02.size
  have c12 := cell_of_one hSt2.head
  rw [← HA.out.2.1] at c12
  have hi1 : (i0 : Int) < (N : Int) := by omega
  have HC : Hid (Store base bC ga C K w2 ∧ Fr (· = bc) w w2 ∧ Tick bc bd d q2 w2 ∧ j ≤ xs.length ∧ (∀ t, t < j → kd d (xs.getD t 0) < kd d v) ∧ (∀ t, j ≤ t → t < xs.length → kd d v ≤ kd d (xs.getD t 0))) :=
    ⟨hSt2, hF02, hT2, by rw [← HB.out.2.2.2.1]; exact hj, hjlo, by rw [← HB.out.2.2.2.1]; exact hjhi⟩
  have hq23' := hq23 hx1
  clear hSt2 hF02 hT2 hjlo hjhi hF2 c1 c2 HEL HSR hcC1 hq23
  go_region_held3 (fun w' => w'.cell? ⟨bC, 0, none⟩ = some (.slice (some ⟨ga, 0, none⟩) N C)) (first | go_keep | (show _ = _; rw [hcC3]))
    ((first | (go_at_call 19; refine (ins19_any base g l cap j w2.heap.size (iv xs) (.int .i64 v) (w2.alloc (.cells #[.int .i64 v] 3)).drew (pre19 HC.out.1 HB.out.2.1 HB.out.2.2.2.1 hb2 _).1 hj (heap_alloc_new _ _) (pre19 HC.out.1 HB.out.2.1 HB.out.2.2.2.1 hb2 (.cells #[.int .i64 v] 3)).2.1 (iv_one xs) rfl (by omega) (pre19 HC.out.1 HB.out.2.1 HB.out.2.2.2.1 hb2 (.cells #[.int .i64 v] 3)).2.2).mono ?_; rintro e w3 ⟨g', c', rfl, hown3, hgr3, hor3⟩; obtain ⟨hSt3, hF3, hg3, ⟨u3, hu3⟩, hfz3, hcC3⟩ := post19 HC.out.1 HB.out.2.1 HB.out.2.2.2.1 HC.out.2.2.2.1 hown3 (grownBy_ofDrew hgr3) hor3; rw [← HA.out.2.1] at hcC3; have hgaC := HA.out.1.ga_ne_bC)))
  generalize w3.setCell ⟨ga, i0, none⟩ (.slice (some ⟨g', 0, none⟩) (l + 1) c') = W at hSt3 hF3 ⊢
  have hT3 : Tick bc bd d q2 W := HC.out.2.2.1.kept hF3 (by have := own_base HA.out.1.row; have := own_base (HA.out.1.chk _ (List.mem_of_getElem? HB.out.2.1)); omega) (by have := own_base HA.out.1.row; have := own_base (HA.out.1.chk _ (List.mem_of_getElem? HB.out.2.1)); omega)
  have hF0W : Fr (fun b => b = bC ∨ b = bc ∨ b = ga ∨ ∃ k ∈ K, k.1 = b) w W := (HC.out.2.1.mono (fun _ _ e => .inr (.inl e))).trans hF3 (fun k _ e => e.elim (fun e => .inr (.inr (.inl e))) (fun e => .inr (.inr (.inr ⟨_, List.mem_of_getElem? HB.out.2.1, e.symm⟩))))
  have hbW : base ≤ W.heap.size := Nat.le_trans hbase hF0W.size
  have hsz : w.heap.size ≤ w2.heap.size := HC.out.2.1.size
  have hlen : (insAt xs j v).length = l + 1 := by rw [insAt_length _ _ _ HC.out.2.2.2.1, HB.out.2.2.2.1]
  have hset : (K.set i0 (g', c', insAt xs j v))[i0]? = some (g', c', insAt xs j v) := by rw [List.getElem?_set]; simp [← HA.out.2.1, hi0N]
  have hcont : ∀ k' ∈ K.set i0 (g', c', insAt xs j v), (∃ k ∈ K, k.1 = k'.1) ∨ w.heap.size ≤ k'.1 := fun k' hk' => by
    rcases List.mem_or_eq_of_mem_set hk' with h1 | rfl
    · exact .inl ⟨k', h1, rfl⟩
    · rcases hg3 with e | e
      · exact .inl ⟨_, List.mem_of_getElem? HB.out.2.1, e.symm⟩
      · exact .inr (by simp only; omega)
  have HX := fin_keep HA.out.2.1 HB.out.1 hNp HB.out.2.1 HB.out.2.2.2.1 HB.out.2.2.2.2.2.2.2.1 HB.out.2.2.2.2.2.2.2.2 HC.out.2.2.2.1 HC.out.2.2.2.2.1 HC.out.2.2.2.2.2
  have HD : Hid (Store base bC ga C (K.set i0 (g', c', insAt xs j v)) W ∧ Tick bc bd d q2 W ∧ Fr (fun b => b = bC ∨ b = bc ∨ b = ga ∨ ∃ k ∈ K, k.1 = b) w W ∧ (insAt xs j v).length = l + 1 ∧ (K.set i0 (g', c', insAt xs j v))[i0]? = some (g', c', insAt xs j v) ∧
    (∀ k' ∈ K.set i0 (g', c', insAt xs j v), (∃ k ∈ K, k.1 = k'.1) ∨ w.heap.size ≤ k'.1)) := ⟨hSt3, hT3, hF0W, hlen, hset, hcont⟩
  have HX' : Hid (∀ X', X' = (if xs.length ≤ 255 then (K.map (·.2.2)).set i0 (insAt xs j v) else (K.map (·.2.2)).take i0 ++ (insAt xs j v).take 128 :: (insAt xs j v).drop 128 :: (K.map (·.2.2)).drop (i0 + 1)) → Xstep d v (K.map (·.2.2)) X') := HX
  clear hSt3 hT3 hF0W hlen hset hcont HX hown3 hgr3 hor3 hF3 hu3 hfz3 hcC3 c12
  by_cases hl255 : l ≤ 255
  · go_wp2_with (go_at_call 20; refine (bal20_keep base bC ga C i0 _ _ W HD.out.1 HD.out.2.2.2.2.1 (by simp only; rw [HD.out.2.2.2.1]; omega) (by rw [List.length_set, ← HA.out.2.1]; omega) ?hok).mono ?_; rotate_left; rintro e w5 ⟨rfl, rfl⟩)
    case hok =>
      simp only [HD.out.2.2.2.1]
      rcases H64.out with e | e
      · exact .inl ⟨e, by omega⟩
      · have := e _ (List.mem_of_getElem? HB.out.2.1)
        have h1 := HB.out.2.2.2.1
        simp only at this
        exact .inr (by omega)
    go_end0
    refine ⟨rfl, ga, C, _, q2, HD.out.1, HX'.out _ ?_, HD.out.2.1, by omega, by omega, HD.out.2.2.1, HD.out.2.2.2.2.2⟩
    rw [if_pos (by rw [← HB.out.2.2.2.1]; exact hl255), List.map_set]
  · go_wp2_with (go_at_call 20; refine (bal20_split base bC ga C i0 g' c' (insAt xs j v) _ W HD.out.1 HD.out.2.2.2.2.1 (by rw [HD.out.2.2.2.1]; omega) (by rw [List.length_set, ← HA.out.2.1]; omega) hbW hbC).mono ?_; rintro e w5 ⟨rfl, ga5, C5, g1, c1, g2, c2, hSt5, hF5, hg1, hg2⟩)
    go_end0
    have hWs : w.heap.size ≤ W.heap.size := HD.out.2.2.1.size
    refine ⟨rfl, ga5, C5, _, q2, hSt5, HX'.out _ ?_, HD.out.2.1.kept hF5 ?_ ?_, by omega, by omega, HD.out.2.2.1.trans hF5 (fun k _ e => e.elim .inl (fun e => .inr (.inr (.inl e)))), fun k' hk' => ?_⟩
    · rw [if_neg (by rw [← HB.out.2.2.2.1]; exact hl255)]
      simp [List.map_take, List.map_drop, List.take_set, List.drop_set]
      exact List.set_eq_of_length_le (by simp; omega)
    · have := own_base HA.out.1.row; omega
    · have := own_base HA.out.1.row; omega
    · simp only [List.mem_append, List.mem_cons] at hk'
      rcases hk' with h1 | rfl | rfl | h1
      · exact HD.out.2.2.2.2.2 k' (List.mem_of_mem_take h1)
      · exact .inr (by simp only; omega)
      · exact .inr (by simp only; omega)
      · exact HD.out.2.2.2.2.2 k' (List.mem_of_mem_drop h1)
end Go.Proofs.Ybulkbcge
