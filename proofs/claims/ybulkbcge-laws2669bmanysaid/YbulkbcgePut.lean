import Derived.Test.YbulkbcgeInsert
namespace Go.Proofs.Ybulkbcge
open Go.RowKit
set_option linter.unusedSimpArgs false
set_option linter.unusedVariables false
attribute [local go_sem ↓] Go.wp_at_zero Go.wp_at_succ

theorem step_copy_z {P : Program} {ops : Array Oper} {o : Oper} {a : Act} {w : World} {K : Act → World → Prop} {Q : Exit → Act → World → Prop} {E : Prop} (hgd : o.guard = none) (d s : Operand) (dT sT : TypeId)
    (ho : o.op = .call { callee := .builtin .copy, args := #[d, s], argTypes := #[dT, sT] }) (elem : TypeId) (hu : P.underlying dT = some (.slice elem)) (hsz : (P.info? elem).map (·.size) = some 1)
    (dp sp : Option Addr) (dCap sLen sCap : Nat) (hd : a.eval d = .slice dp 0 dCap) (hs : a.eval s = .slice sp sLen sCap) (h : K (a.put o.dst (goInt 0)) w) :
    if Region.wanted o (yielded ops a.tmps) = true then Oper.wp P o a w K Q else E := by
  have hw : Region.wanted o (yielded ops a.tmps) = true := by simp [Region.wanted, hgd]
  rw [if_pos hw]
  have hrun := run_copy_none (P := P) w dT sT o.type elem dp sp 0 dCap sLen sCap hu hsz (by simp [Nat.min_def])
  unfold Oper.wp
  simp [execOp, ho, resolve, invoke, builtin, hd, hs, hrun, Result.andThen]
  exact h

theorem row_setCell {w : World} {g k : Nat} {L : List Value} {e : TypeId} (hg : w.heap[g]? = some (.cells L.toArray e (0, 0))) (x : Value) : (w.setCell ⟨g, k, none⟩ x).heap[g]? = some (.cells (L.set k x).toArray e (0, 0)) := by
  simp [World.setCell, Array.getElem?_modify, hg]

theorem splice_one {α : Type} (L : List α) (k : Nat) (x : α) (hk : k < L.length) : splice L k [x] = L.set k x := by
  rw [List.set_eq_take_append_cons_drop, if_pos hk]; simp [splice]

/-- the end of 'put', the place not the last -/
theorem put_fin {base n k g' c' : Nat} {m : List Int} {v : Int} {cur : List Value} {w2 : World} (hb : base ≤ g') (hnl : n = m.length) (hk : k < n) (hcl : cur.length = c') (htk : cur.take (n + 1) = iv m ++ [.int .i64 0]) (hnc : n + 1 ≤ c') (hcm : c' ≤ maxLen)
    (hg : w2.heap[g']? = some (.cells (splice cur (k + 1) ((iv m).drop k)).toArray 3 (0, 0))) :
    (w2.setCell ⟨g', k, none⟩ (.int .i64 v)).ownsRow base 3 1 (.slice (some ⟨g', 0, none⟩) (n + 1) c') (n + 1) (iv (insAt m k v)) := by
  have hl : (iv m).length = n := by rw [iv_length, hnl]
  have htk' : cur.take n = iv m := by
    have e : cur.take n = (cur.take (n + 1)).take n := by rw [List.take_take, Nat.min_eq_left (by omega)]
    rw [e, htk, List.take_append_of_le_length (by omega), List.take_of_length_le (by omega)]
  obtain ⟨e1, e2⟩ := splice_ins cur (iv m) n k (.int .i64 v) hl htk' hk (by omega)
  have h1 := row_setCell (k := k) hg (.int .i64 v)
  have hsl : (splice cur (k + 1) ((iv m).drop k)).length = cur.length := length_splice _ _ _ (by simp [hl]; omega)
  rw [← splice_one _ k _ (by omega)] at h1
  refine own_mk hb h1 (by rw [e2, hcl]) (by rw [e1, iv_insAt]) (by rw [iv_length, insAt_length _ _ _ (by omega), ← hnl]) hnc hcm

/-- the end of 'put', at the end -/
theorem put_fin2 {base n g' c' : Nat} {m : List Int} {v : Int} {cur : List Value} {w2 : World} (hb : base ≤ g') (hnl : n = m.length) (hcl : cur.length = c') (htk : cur.take (n + 1) = iv m ++ [.int .i64 0]) (hnc : n + 1 ≤ c') (hcm : c' ≤ maxLen)
    (hg : w2.heap[g']? = some (.cells cur.toArray 3 (0, 0))) :
    (w2.setCell ⟨g', n, none⟩ (.int .i64 v)).ownsRow base 3 1 (.slice (some ⟨g', 0, none⟩) (n + 1) c') (n + 1) (iv (insAt m n v)) := by
  have hl : (iv m).length = n := by rw [iv_length, hnl]
  refine own_mk hb (row_setCell hg (.int .i64 v)) (by simp [hcl]) ?_ (by rw [iv_length, insAt_length _ _ _ (by omega), ← hnl]) hnc hcm
  rw [List.take_set, htk, iv_insAt, List.set_append_right _ _ (by omega)]
  rw [hl, Nat.sub_self, List.take_of_length_le (by omega), List.drop_eq_nil_of_le (by omega)]
  rfl

theorem put_fr {wr w1 w2 : World} {o : Obj} {row : Option Nat} {g' k : Nat} {x : Value} (hg1 : (wr.alloc o).grownBy w1 row) (hg2 : w1.drew.grownBy w2 (some g')) (he : row = some g' ∨ g' = wr.heap.size + 1) :
    Fr (fun b => row = some b) wr (w2.setCell ⟨g', k, none⟩ x) := by
  have f1 : Fr (fun b => row = some b) wr w1 := ((Fr.refl (fun b => row = some b) wr).alloc o).trans (Fr.ofGrown hg1) (fun b _ e => e.symm)
  have key : ∀ i, i < wr.heap.size → i = g' → row = some i := fun i hi e => by
    rcases he with h | h
    · rw [e]; exact h
    · omega
  have f2 : Fr (fun b => b = g') w1 w2 := ((Fr.ofGrown hg2).ofDrew).mono (fun i _ e => by simpa using e)
  have f3 : Fr (fun b => b = g') w2 (w2.setCell ⟨g', k, none⟩ x) := Fr.setCell (S := fun b => b = g') (Fr.refl _ w2) (p := ⟨g', k, none⟩) rfl _
  exact (f1.trans f2 key).trans f3 key

theorem put_fr2 {wr w1 : World} {o : Obj} {row : Option Nat} {g' k : Nat} {x : Value} (hg1 : (wr.alloc o).grownBy w1 row) (he : row = some g' ∨ g' = wr.heap.size + 1) :
    Fr (fun b => row = some b) wr (w1.drew.setCell ⟨g', k, none⟩ x) := by
  have f1 : Fr (fun b => row = some b) wr w1 := ((Fr.refl (fun b => row = some b) wr).alloc o).trans (Fr.ofGrown hg1) (fun b _ e => e.symm)
  have key : ∀ i, i < wr.heap.size → i = g' → row = some i := fun i hi e => by
    rcases he with h | h
    · rw [e]; exact h
    · omega
  have f3 : Fr (fun b => b = g') w1 (w1.drew.setCell ⟨g', k, none⟩ x) := Fr.setCell (S := fun b => b = g') ((Fr.refl _ w1).drew) (p := ⟨g', k, none⟩) rfl _
  exact f1.trans f3 key

theorem cmp_keep (a b : Int) (d : Bool) (w : World) :
    Calls Yba.prog 12 #[.int .i64 a, .int .i64 b, .bool d] w fun e w' => e = .returned (.int .i64 (cmpD a b d)) ∧ w = w' :=
  (cmp_any a b d w).mono fun _ _ h => ⟨h.1, h.2.symm⟩

set_option maxHeartbeats 1600000 in
theorem put14_any (base : Nat) (mv : Value) (m : List Int) (v : Int) (d : Bool) (w : World) (hown : w.ownsRow base 3 1 mv m.length (iv m)) (hn : m.length ≤ 10000) (hbase : base ≤ w.heap.size) :
    Calls Yba.prog 14 #[mv, .int .i64 v, .bool d] w fun e w' => ∃ k g' c', e = .returned (.slice (some ⟨g', 0, none⟩) (m.length + 1) c') ∧ k ≤ m.length ∧ (∀ t, t < k → kd d (m.getD t 0) < kd d v) ∧ (k < m.length → kd d v ≤ kd d (m.getD k 0)) ∧
      w'.ownsRow base 3 1 (.slice (some ⟨g', 0, none⟩) (m.length + 1) c') (m.length + 1) (iv (insAt m k v)) ∧ Fr (fun b => mv.ownBlock = some b) w w' ∧ (mv.ownBlock = some g' ∨ w.heap.size ≤ g') := by
  obtain ⟨i0, hi0, hz0, hz1, hz2⟩ := info_parts info3
  obtain ⟨ao, n, c, rfl, hnl⟩ : ∃ ao n c, mv = .slice ao n c ∧ n = m.length := by
    rcases hown.2 with ⟨h, h2⟩ | ⟨g', cap, cur, h, _⟩
    · exact ⟨_, _, _, h, by omega⟩
    · exact ⟨_, _, _, h, rfl⟩
  have hcell : ∀ t, t < n → ∃ b, ao = some ⟨b, 0, none⟩ ∧ w.cell? ⟨b, t, none⟩ = some (.int .i64 (m.getD t 0)) := by
    intro t ht
    rcases hown.2 with ⟨h, h2⟩ | ⟨g', cap, cur, h, _, hg, _, _, _, htk⟩
    · omega
    · simp at h
      refine ⟨g', h.1, ?_⟩
      have e : (iv m)[t]? = some (.int .i64 (m.getD t 0)) := by simp [iv, ← hnl, ht]
      exact own_cell (cur := cur.toList) (by simpa using hg) (by simpa using htk) t _ e
  have HW : Hid (w.ownsRow base 3 1 (.slice ao n c) n (iv m)) := by rw [← hnl] at hown; exact hown
  rw [← hnl] at hn ⊢
  have HNL : Hid (n = m.length) := hnl
  have HCE : Hid (∀ t, t < n → ∃ b, ao = some ⟨b, 0, none⟩ ∧ w.cell? ⟨b, t, none⟩ = some (.int .i64 (m.getD t 0))) := hcell
  clear hown hcell hnl
  go_enter Yba.func14, Yba.ntmps14
  go_wp2_with fail
  go_loopw [7] (fun i wr => ∃ k : Nat, i = .int .i64 k ∧ k ≤ n ∧ (∀ t, t < k → kd d (m.getD t 0) < kd d v) ∧ wr = w) (fun i _ => n - (intOf i).toNat)
  case atStart => exact ⟨0, rfl, Nat.zero_le _, by omega, rfl⟩
  case round =>
    obtain ⟨k, rfl, hk, hlo, rfl⟩ := hrel
    have HLO : Hid (∀ t, t < k → kd d (m.getD t 0) < kd d v) := hlo
    clear hlo
    by_cases hlt : k < n
    · obtain ⟨b, hao, hce⟩ := HCE.out k hlt
      obtain ⟨y, hy⟩ : ∃ y, y = m.getD k 0 := ⟨_, rfl⟩
      rw [← hy] at hce
      have HY : Hid (y = m.getD k 0) := hy
      clear hy
      by_cases hc : cmpD y v d < 0
      · subst hao
        go_wp2_with (go_at_call 12; refine (cmp_keep _ _ _ _).mono ?_; rintro e w' ⟨rfl, rfl⟩)
        go_roundw
        case rel =>
          refine ⟨k + 1, by go_num, by omega, fun t ht => ?_, by first | rfl | trivial⟩
          by_cases e : t = k
          · subst e; rw [← HY.out]; exact (cmpD_neg _ _ _).1 hc
          · exact HLO.out t (by omega)
        case measure => simp [intOf]; omega
      · subst hao
        have hml : n + 1 ≤ maxLen := by unfold maxLen; omega
        have hmb : (n + 1) * 8 ≤ 140737488355328 := by omega
        go_wp2_with (first
          | (go_at_call 12; refine (cmp_keep _ _ _ _).mono ?_; rintro e w' ⟨rfl, rfl⟩)
          | (at_builtin; refine wpList_append_own2 _ rfl _ _ 22 22 rfl base 3 i0 (.int .i64 0) 1 8 Yba.underlying22 Yba.underlying22 hi0 hz0 hz1 hz2 rfl (by decide) _ _ _ rfl (HW.out.alloc _) ⟨wr.heap.size, 0, none⟩ 1 1 [.int .i64 0] rfl rfl (cells_of_one (heap_alloc_new _ _)) (by intro u hu; simp at hu; subst hu; rfl) hml hmb (by simp; omega) (by decide) ?_))
        intro v' w1 hown1 hgr1 H5
        obtain ⟨g', c', e1, e2⟩ := H5
        subst e1
        obtain ⟨hnc, hcm⟩ := own_caps hown1
        have HCM : Hid (c' ≤ maxLen ∧ base ≤ g') := ⟨hcm, own_base hown1⟩
        unfold maxLen at hcm
        obtain ⟨cur, hg, hcl, htk⟩ := own_row hown1
        have hwr1 : IntKind.i64.wrap ((k : Int) + 1) = (k : Int) + 1 := by rw [IntKind.wrap_i64]; omega
        have hb1 : (0 : Int) ≤ (k : Int) + 1 := by omega
        have hb2 : ((k : Int) + 1).toNat = k + 1 := by omega
        have hb3 : (k : Int) + 1 ≤ (n : Int) + 1 := by omega
        have hb4 : (k : Int) ≤ (n : Int) + 1 := by omega
        have hb5 : ¬ (c' = k + 1) := by omega
        have hb6 : ¬ (c' = k) := by omega
        have hb7 : k ≤ n + 1 := by omega
        have HL : Hid (((iv m).drop k).length = n - k) := (by simp [iv_length, HNL.out] : ((iv m).drop k).length = n - k)
        have HR : Hid (w1.heap[g']? = some (.cells cur.toArray 3 (0, 0)) ∧ cur.length = c' ∧ cur.take (n + 1) = iv m ++ [.int .i64 0]) := ⟨hg, hcl, htk⟩
        have HCW : Hid (∀ i u, ((iv m).drop k)[i]? = some u → w1.cell? ((⟨g', k, none⟩ : Addr).add i) = some u) := fun i u hi => by
          rw [Addr.add_lit]
          refine own_cell hg htk (k + i) u ?_
          rw [List.getElem?_drop] at hi
          rw [List.getElem?_append_left (by have := (List.getElem?_eq_some_iff.1 hi).1; exact this)]
          exact hi
        have HG : Hid ((wr.alloc (.cells #[.int .i64 0] 3)).grownBy w1 (some b)) := hgr1
        have HE : Hid (some b = some g' ∨ g' = wr.heap.size + 1) := (by simpa [Value.ownBlock] using e2 : some b = some g' ∨ g' = wr.heap.size + 1)
        clear hown1 hgr1 e2 hg hcl htk
        go_wp2
        go_region_law (refine step_copy_g rfl _ _ 22 22 rfl 3 Yba.underlying22 size3 g' (k + 1) (n + 1 - (k + 1)) (c' - (k + 1)) ⟨g', k, none⟩ (n + 1 - k) (c' - k) (by simp [Act.eval, Act.put]) (by simp [Act.eval, Act.put]) cur 3 HR.out.1 ((iv m).drop k) (by rw [HL.out]; simp only [Nat.min_def]; split <;> omega) HCW.out (by rw [HL.out, HR.out.2.1]; omega) (fun u hu => iv_one m u (List.mem_of_mem_drop hu)) ?_; intro w2 hg2 hw2)
        have hk1 : k < (splice cur (k + 1) ((iv m).drop k)).length := by rw [length_splice _ _ _ (by rw [HL.out, HR.out.2.1]; omega), HR.out.2.1]; omega
        have hcg : w2.cell? ⟨g', k, none⟩ = some ((splice cur (k + 1) ((iv m).drop k))[k]) := by simp [World.cell?, hg2.out, hk1]
        have hfz : w2.frozen? ⟨g', k, none⟩ = false := by simp [World.frozen?, hg2.out]
        obtain ⟨uu, huu⟩ : ∃ uu, uu = (splice cur (k + 1) ((iv m).drop k))[k] := ⟨_, rfl⟩
        rw [← huu] at hcg
        clear huu hk1
        go_wp2
        go_ret
        refine ⟨k, g', c', rfl, hk, HLO.out, fun _ => ?_, put_fin HCM.out.2 HNL.out hlt HR.out.2.1 HR.out.2.2 hnc HCM.out.1 hg2.out, ?_, ?_⟩
        · rw [← HY.out]
          have := mt (cmpD_neg y v d).2 (by omega)
          omega
        · exact put_fr (row := some b) HG.out hw2.out HE.out
        · rcases HE.out with e | e
          · exact .inl e
          · exact .inr (by omega)
    · obtain rfl : k = n := by omega
      have hml : k + 1 ≤ maxLen := by unfold maxLen; omega
      have hmb : (k + 1) * 8 ≤ 140737488355328 := by omega
      have hd : decide ((k : Int) < (k : Int)) = false := by simp
      go_wp2_with (at_builtin; refine wpList_append_own2 _ rfl _ _ 22 22 rfl base 3 i0 (.int .i64 0) 1 8 Yba.underlying22 Yba.underlying22 hi0 hz0 hz1 hz2 rfl (by decide) _ _ _ rfl (HW.out.alloc _) ⟨wr.heap.size, 0, none⟩ 1 1 [.int .i64 0] rfl rfl (cells_of_one (heap_alloc_new _ _)) (by intro u hu; simp at hu; subst hu; rfl) hml hmb (by simp; omega) (by decide) ?_)
      intro v' w1 hown1 hgr1 H5
      obtain ⟨g', c', e1, e2⟩ := H5
      subst e1
      obtain ⟨hnc, hcm⟩ := own_caps hown1
      have HCM : Hid (c' ≤ maxLen ∧ base ≤ g') := ⟨hcm, own_base hown1⟩
      unfold maxLen at hcm
      obtain ⟨cur, hg, hcl, htk⟩ := own_row hown1
      have hwr1 : IntKind.i64.wrap ((k : Int) + 1) = (k : Int) + 1 := by rw [IntKind.wrap_i64]; omega
      have hb1 : (0 : Int) ≤ (k : Int) + 1 := by omega
      have hb2 : ((k : Int) + 1).toNat = k + 1 := by omega
      have hb4 : (k : Int) ≤ (k : Int) + 1 := by omega
      have hb6 : ¬ (c' = k) := by omega
      have hb7 : k ≤ k + 1 := by omega
      have HR : Hid (w1.heap[g']? = some (.cells cur.toArray 3 (0, 0)) ∧ cur.length = c' ∧ cur.take (k + 1) = iv m ++ [.int .i64 0]) := ⟨hg, hcl, htk⟩
      have HG : Hid ((wr.alloc (.cells #[.int .i64 0] 3)).grownBy w1 ((Value.slice ao k c).ownBlock)) := hgr1
      have HE : Hid ((Value.slice ao k c).ownBlock = some g' ∨ g' = wr.heap.size + 1) := (by simpa using e2 : (Value.slice ao k c).ownBlock = some g' ∨ g' = wr.heap.size + 1)
      have hcg : w1.cell? ⟨g', k, none⟩ = some (cur[k]'(by omega)) := by simp [World.cell?, hg]
      have hfz : w1.frozen? ⟨g', k, none⟩ = false := by simp [World.frozen?, hg]
      obtain ⟨uu, huu⟩ : ∃ uu, uu = cur[k]'(by omega) := ⟨_, rfl⟩
      rw [← huu] at hcg
      clear hown1 hgr1 e2 hg hcl htk huu
      by_cases hcc : c' = k + 1
      · subst hcc
        go_wp2
        go_region_law (refine step_copy_z rfl _ _ 22 22 rfl 3 Yba.underlying22 size3 (some ⟨g', 0, none⟩) (some ⟨g', k, none⟩) 0 1 1 (by simp [Act.eval, Act.put]) (by simp [Act.eval, Act.put]) ?_)
        go_wp2
        go_ret
        refine ⟨k, g', k + 1, rfl, Nat.le_refl _, HLO.out, fun h => by omega, put_fin2 HCM.out.2 HNL.out HR.out.2.1 HR.out.2.2 hnc HCM.out.1 HR.out.1, put_fr2 HG.out HE.out, ?_⟩
        rcases HE.out with e | e
        · exact .inl e
        · exact .inr (by omega)
      · go_wp2
        go_region_law (refine step_copy_z rfl _ _ 22 22 rfl 3 Yba.underlying22 size3 (some ⟨g', k + 1, none⟩) (some ⟨g', k, none⟩) (c' - (k + 1)) 1 (c' - k) (by simp [Act.eval, Act.put]) (by simp [Act.eval, Act.put]) ?_)
        go_wp2
        go_ret
        refine ⟨k, g', c', rfl, Nat.le_refl _, HLO.out, fun h => by omega, put_fin2 HCM.out.2 HNL.out HR.out.2.1 HR.out.2.2 hnc HCM.out.1 HR.out.1, put_fr2 HG.out HE.out, ?_⟩
        rcases HE.out with e | e
        · exact .inl e
        · exact .inr (by omega)
end Go.Proofs.Ybulkbcge
