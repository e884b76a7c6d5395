import Derived.Test.YbulkbcgeRows
import Derived.Test.YbulkbcgeMem
import Derived.Outline
namespace Go.Proofs.Ybulkbcge
open Go.RowKit
set_option linter.unusedSimpArgs false
set_option linter.unusedVariables false

theorem own_caps {w : World} {base g n c : Nat} {e : TypeId} {cs : List Value} (h : w.ownsRow base e 1 (.slice (some ⟨g, 0, none⟩) n c) n cs) : n ≤ c ∧ c ≤ maxLen := by
  rcases h.2 with ⟨h, _⟩ | ⟨g', cap, cur, h, hb, hgg, hnc, hc, hs, ht⟩
  · simp at h
  · simp at h; omega
theorem own_base {w : World} {base g n c : Nat} {e : TypeId} {cs : List Value} (h : w.ownsRow base e 1 (.slice (some ⟨g, 0, none⟩) n c) n cs) : base ≤ g := by
  rcases h.2 with ⟨h, _⟩ | ⟨g', cap, cur, h, hb, hgg, hnc, hc, hs, ht⟩
  · simp at h
  · simp at h; omega
theorem own_row {w : World} {base g n c : Nat} {e : TypeId} {cs : List Value} (h : w.ownsRow base e 1 (.slice (some ⟨g, 0, none⟩) n c) n cs) :
    ∃ cur : List Value, w.heap[g]? = some (.cells cur.toArray e (0, 0)) ∧ cur.length = c ∧ cur.take n = cs := by
  rcases h.2 with ⟨h, _⟩ | ⟨g', cap, cur, h, hb, hgg, hnc, hc, hs, ht⟩
  · simp at h
  · simp at h
    obtain ⟨rfl, rfl⟩ := h
    exact ⟨cur.toList, by simpa using hgg, by simpa using hs, by simpa using ht⟩
theorem own_mk {w : World} {base g n c : Nat} {e : TypeId} {cs cur : List Value} (hb : base ≤ g) (hg : w.heap[g]? = some (.cells cur.toArray e (0, 0))) (hc : cur.length = c)
    (ht : cur.take n = cs) (hl : cs.length = n) (hnc : n ≤ c) (hcm : c ≤ maxLen) : w.ownsRow base e 1 (.slice (some ⟨g, 0, none⟩) n c) n cs :=
  ⟨by simpa using hl, .inr ⟨g, c, cur.toArray, rfl, hb, hg, hnc, hcm, by simpa using hc, by simpa using ht⟩⟩
theorem own_cell {w : World} {g n : Nat} {e : TypeId} {cs cur : List Value} (hg : w.heap[g]? = some (.cells cur.toArray e (0, 0))) (ht : cur.take n = cs) (i : Nat) (v : Value) (hi : cs[i]? = some v) :
    w.cell? ⟨g, i, none⟩ = some v := by
  subst ht
  rw [List.getElem?_take] at hi
  split at hi
  · simpa [World.cell?, hg] using hi
  · cases hi
theorem cells_of_one {w : World} {vb : Nat} {x : Value} {e : TypeId} (hv : w.heap[vb]? = some (.cells #[x] e (0, 0))) : ∀ i u, [x][i]? = some u → w.cell? ((⟨vb, 0, none⟩ : Addr).add i) = some u := by
  intro i u hu
  match i, hu with
  | 0, hu => simp at hu; subst hu; simp [Addr.add, World.cell?, hv]
theorem grownBy_trans {a b c : World} {row : Option Nat} (h : a.grownBy b row) (k : b.grownBy c row) : a.grownBy c row :=
  ⟨k.os.trans h.os, k.tape.trans h.tape, k.output.trans h.output, Nat.le_trans h.size k.size, fun i hi hS => (k.block i (Nat.lt_of_lt_of_le hi h.size) hS).trans (h.block i hi hS)⟩

theorem grownBy_ofDrew {a b : World} {row : Option Nat} (h : a.drew.grownBy b row) : a.grownBy b row := ⟨h.os, h.tape, h.output, h.size, h.block⟩

theorem info3 : (Yba.prog.info? 3).map (fun i => (i.zero, i.size, i.bytes)) = some (some (.int .i64 0), 1, 8) := by kernel_rfl
theorem size3 : (Yba.prog.info? 3).map (·.size) = some 1 := by kernel_rfl
theorem sizeOf3 (w : World) : (Go.sizeOf 3).run Yba.prog w = .ok 1 w := by kernel_rfl

set_option maxHeartbeats 1000000 in
set_option maxRecDepth 100000 in
/-- slices.Insert at []int, AT THE END. -/
theorem ins19_end (base g n c vb : Nat) (cs : List Value) (x : Value) (w : World)
    (hown : w.ownsRow base 3 1 (.slice (some ⟨g, 0, none⟩) n c) n cs) (hv : w.heap[vb]? = some (.cells #[x] 3 (0, 0)))
    (hx : x.oneCell' = true) (hn : n ≤ 100000) (hbase : base ≤ w.heap.size) :
    Calls Yba.prog 19 #[.slice (some ⟨g, 0, none⟩) n c, .int .i64 n, .slice (some ⟨vb, 0, none⟩) 1 1] w fun e w' =>
      ∃ g' c', e = .returned (.slice (some ⟨g', 0, none⟩) (n + 1) c') ∧ w'.ownsRow base 3 1 (.slice (some ⟨g', 0, none⟩) (n + 1) c') (n + 1) (cs ++ [x]) ∧ w.grownBy w' (some g) ∧ (g' = g ∨ g' = w.heap.size) := by
  obtain ⟨i0, hi0, hz0, hz1, hz2⟩ := info_parts info3
  have hnn : ((n : Int) == (n : Int)) = true := by simp
  obtain ⟨hnc, hcm⟩ := own_caps hown
  unfold maxLen at hcm
  have HO : Hid (w.ownsRow base 3 1 (.slice (some ⟨g, 0, none⟩) n c) n cs) := hown
  have hc1 := cells_of_one hv
  have h1 : ∀ u ∈ [x], u.oneCell' = true := by intro u hu; simp at hu; subst hu; exact hx
  have hml : n + 1 ≤ maxLen := by unfold maxLen; omega
  have hmb : (n + 1) * 8 ≤ 140737488355328 := by omega
  clear hown
  go_enter Yba.func19, Yba.ntmps19
  go_wp2_with (at_builtin; refine wpList_append_own2 _ rfl _ _ 22 22 rfl base 3 i0 (.int .i64 0) 1 8 Yba.underlying22 Yba.underlying22 hi0 hz0 hz1 hz2 rfl (by decide) _ _ _ rfl HO.out ⟨vb, 0, none⟩ 1 1 [x] rfl rfl hc1 h1 hml hmb hbase (by decide) ?_)
  all_goals
    intro v' w1 hown' hgrow H5
    have HO' : Hid (w1.ownsRow base 3 1 v' (n + 1) (cs ++ [x])) := hown'
    have HG : Hid (w.grownBy w1 (some g)) := hgrow
    clear hown' hgrow
    go_wp2
    go_ret
    obtain ⟨g', c', e1, e2⟩ := H5
    subst e1
    exact ⟨g', c', rfl, HO'.out, HG.out, by simpa [Value.ownBlock, eq_comm] using e2⟩

set_option maxHeartbeats 1000000 in
set_option maxRecDepth 100000 in
/-- slices.Insert at []int, IN THE MIDDLE, there is room. -/
theorem ins19_shift (base g n c j vb : Nat) (cs : List Value) (x : Value) (w : World)
    (hown : w.ownsRow base 3 1 (.slice (some ⟨g, 0, none⟩) n c) n cs) (hj : j < n) (hroom : n + 1 ≤ c) (hv : w.heap[vb]? = some (.cells #[x] 3 (0, 0))) (hvb : vb ≠ g)
    (hcs1 : ∀ v ∈ cs, v.oneCell' = true) (hx : x.oneCell' = true) (hn : n ≤ 100000) :
    Calls Yba.prog 19 #[.slice (some ⟨g, 0, none⟩) n c, .int .i64 j, .slice (some ⟨vb, 0, none⟩) 1 1] w fun e w' =>
      ∃ g' c', e = .returned (.slice (some ⟨g', 0, none⟩) (n + 1) c') ∧ w'.ownsRow base 3 1 (.slice (some ⟨g', 0, none⟩) (n + 1) c') (n + 1) (cs.take j ++ x :: cs.drop j) ∧ w.grownBy w' (some g) ∧ (g' = g ∨ g' = w.heap.size) := by
  obtain ⟨hnc, hcm⟩ := own_caps hown
  have HB : Hid (base ≤ g ∧ c ≤ maxLen) := ⟨own_base hown, hcm⟩
  unfold maxLen at hcm
  obtain ⟨cur, hg, hcl, htk⟩ := own_row hown
  have hl : cs.length = n := by simpa using hown.1
  have hz2 : ¬ ((j : Int) = (n : Int)) := by omega
  have hov : ∀ lb cb, (callFunc 24 #[.slice (some ⟨vb, 0, none⟩) 1 1, .slice (some ⟨g, j + 1, none⟩) lb cb]).run Yba.prog w = .ok (.value (.bool false)) w := fun lb cb => by
    rw [run_callFunc_extern Yba.func24 (by kernel_rfl) (by kernel_rfl) (by kernel_rfl) (e := Extern.SlicesOverlaps.overlaps #[22, 22] #[4]) (by kernel_rfl),
      Lib.run_overlaps_apart w 22 4 3 Yba.underlying22 1 sizeOf3 ⟨vb, 0, none⟩ ⟨g, j + 1, none⟩ 1 1 lb cb hvb 3 3 1 cur.length (by simp [World.shape?, hv]) (by simp [World.shape?, hg]) (by omega) (by simp [World.frozen?, hv]) (by simp [World.frozen?, hv])]
    rfl
  have hdl : (cs.drop j).length = n - j := by rw [List.length_drop, hl]
  have hb2 : ¬ (c = j + 1) := by omega
  have hwr : IntKind.i64.wrap ((j : Int) + 1) = (j : Int) + 1 := by rw [IntKind.wrap_i64]; omega
  have hwp : (0 : Int) ≤ (j : Int) + 1 := by omega
  have hwn : ((j : Int) + 1).toNat = j + 1 := by omega
  have hwl : (j : Int) + 1 ≤ (n : Int) + 1 := by omega
  have hwl2 : (j : Int) ≤ (n : Int) + 1 := by omega
  have hb4 : ¬ (c = j) := by omega
  have hcw : ∀ i v, (cs.drop j)[i]? = some v → w.cell? ((⟨g, j, none⟩ : Addr).add i) = some v := fun i v hi => by
    rw [Addr.add_lit]
    exact own_cell hg htk (j + i) v (by rwa [List.getElem?_drop] at hi)
  have HL : Hid (cs.length = n ∧ cur.take n = cs ∧ cur.length = c ∧ (∀ v ∈ cs.drop j, v.oneCell' = true)) := ⟨hl, htk, hcl, fun v hv => hcs1 v (List.mem_of_mem_drop hv)⟩
  have HV : Hid (w.heap[vb]? = some (.cells #[x] 3 (0, 0))) := hv
  have HGG : Hid (w.heap[g]? = some (.cells cur.toArray 3 (0, 0))) := hg
  have HCW : Hid (∀ i v, (cs.drop j)[i]? = some v → w.cell? ((⟨g, j, none⟩ : Addr).add i) = some v) := hcw
  have HD : Hid ((cs.drop j).length = n - j) := hdl
  clear hown hl htk hcl hv hg hcw hcs1 hdl
  go_enter Yba.func19, Yba.ntmps19
  go_wp2_with (simp only [hov])
  go_region_law (refine step_copy_g rfl _ _ 22 22 rfl 3 Yba.underlying22 size3 g (j + 1) (n + 1 - (j + 1)) (c - (j + 1)) ⟨g, j, none⟩ (n + 1 - j) (c - j) (by simp [Act.eval, Act.put]) (by simp [Act.eval, Act.put]) cur 3 HGG.out (cs.drop j) (by rw [HD.out]; simp only [Nat.min_def]; split <;> omega) HCW.out (by rw [HD.out, HL.out.2.2.1]; omega) HL.out.2.2.2 ?_; intro w1 hg1 hw1)
  have hw1' : w.grownBy w1 (some g) := grownBy_ofDrew hw1.out
  have hv1 : w1.heap[vb]? = some (.cells #[x] 3 (0, 0)) := by rw [hw1'.block vb (lt_of_block HV.out) (by simp [hvb])]; exact HV.out
  have hc1 := cells_of_one hv1
  have HC1 : Hid (∀ i u, [x][i]? = some u → w1.cell? ((⟨vb, 0, none⟩ : Addr).add i) = some u) := hc1
  clear hw1' hv1 hc1
  have hfit1 : j + [x].length ≤ (splice cur (j + 1) (cs.drop j)).length := by rw [length_splice] <;> simp [HD.out, HL.out.2.2.1] <;> omega
  have hmin1 : [x].length = Nat.min 1 (n + 1 - j) := by simp only [Nat.min_def, List.length_cons, List.length_nil]; split <;> omega
  have h1x : ∀ u ∈ [x], u.oneCell' = true := by intro u hu; simp at hu; subst hu; exact hx
  have HF1 : Hid (j + [x].length ≤ (splice cur (j + 1) (cs.drop j)).length ∧ [x].length = Nat.min 1 (n + 1 - j) ∧ ∀ u ∈ [x], u.oneCell' = true) := ⟨hfit1, hmin1, h1x⟩
  clear hfit1 hmin1 h1x
  go_wp2_with (with_reducible refine wpList_copy_r (.tmp 80) (.tmp 81) 22 22 3 Yba.underlying22 size3 g j (n + 1 - j) (c - j) ⟨vb, 0, none⟩ 1 1 ?_ _ 3 hg1.out [x] HF1.out.2.1 HC1.out HF1.out.1 HF1.out.2.2 ?_; exact ⟨rfl, rfl, rfl, rfl⟩; intro w2 hg2 hw2)
  go_ret
  obtain ⟨e1, e2⟩ := splice_ins cur cs n j x HL.out.1 HL.out.2.1 hj (by rw [HL.out.2.2.1]; omega)
  exact ⟨_, _, rfl, own_mk HB.out.1 hg2.out (by rw [e2, HL.out.2.2.1]) e1 (by have := HL.out.1; simp; omega) hroom HB.out.2, grownBy_trans (grownBy_ofDrew hw1.out) hw2.out, .inl rfl⟩

set_option maxHeartbeats 1000000 in
set_option maxRecDepth 100000 in
/-- slices.Insert at []int, IN THE MIDDLE, no room. -/
theorem ins19_grow (base g n j vb : Nat) (cs : List Value) (x : Value) (w : World)
    (hown : w.ownsRow base 3 1 (.slice (some ⟨g, 0, none⟩) n n) n cs) (hj : j < n) (hv : w.heap[vb]? = some (.cells #[x] 3 (0, 0)))
    (hcs1 : ∀ v ∈ cs, v.oneCell' = true) (hx : x.oneCell' = true) (hn : n ≤ 100000) (hbase : base ≤ w.heap.size) :
    Calls Yba.prog 19 #[.slice (some ⟨g, 0, none⟩) n n, .int .i64 j, .slice (some ⟨vb, 0, none⟩) 1 1] w fun e w' =>
      ∃ g' c', e = .returned (.slice (some ⟨g', 0, none⟩) (n + 1) c') ∧ w'.ownsRow base 3 1 (.slice (some ⟨g', 0, none⟩) (n + 1) c') (n + 1) (cs.take j ++ x :: cs.drop j) ∧ w.grownBy w' (some g) ∧ (g' = g ∨ g' = w.heap.size) := by
  obtain ⟨i0, hi0, hz0, hz1, hz2⟩ := info_parts info3
  obtain ⟨cur, hg, hcl, htk⟩ := own_row hown
  have hl : cs.length = n := by simpa using hown.1
  have hzz : ¬ ((j : Int) = (n : Int)) := by omega
  have hdl : (cs.drop j).length = n - j := by rw [List.length_drop, hl]
  have hb4 : ¬ (n = j) := by omega
  have hkk : (n : Int) + 1 - (j : Int) = ((n + 1 - j : Nat) : Int) := by omega
  have hol : (cs.take j).length = j := by simp [hl]; omega
  have hold : ∀ i v, (cs.take j)[i]? = some v → w.cell? ((⟨g, 0, none⟩ : Addr).add i) = some v := fun i v hi => by
    rw [Addr.add_lit, Nat.zero_add]
    exact own_cell hg htk i v (by rw [List.getElem?_take] at hi; split at hi <;> simp_all)
  have hgw := lt_of_block hg
  have hvw := lt_of_block hv
  have HL : Hid (cs.length = n ∧ cur.take n = cs ∧ (∀ v ∈ cs.drop j, v.oneCell' = true)) := ⟨hl, htk, fun v hv => hcs1 v (List.mem_of_mem_drop hv)⟩
  have HV : Hid (w.heap[vb]? = some (.cells #[x] 3 (0, 0))) := hv
  have HGG : Hid (w.heap[g]? = some (.cells cur.toArray 3 (0, 0))) := hg
  have HOL : Hid ((cs.take j).length = j) := hol
  have HOC : Hid (∀ i v, (cs.take j)[i]? = some v → w.cell? ((⟨g, 0, none⟩ : Addr).add i) = some v) := hold
  have HD : Hid ((cs.drop j).length = n - j) := hdl
  have HKK : Hid ((n : Int) + 1 - (j : Int) = ((n + 1 - j : Nat) : Int)) := hkk
  clear hown hl htk hcl hv hg hold hol hcs1 hdl hkk
  go_enter Yba.func19, Yba.ntmps19
  have hwr : IntKind.i64.wrap ((j : Int) + 1) = (j : Int) + 1 := by rw [IntKind.wrap_i64]; omega
  have hwp : (0 : Int) ≤ (j : Int) + 1 := by omega
  have hwn : ((j : Int) + 1).toNat = j + 1 := by omega
  have hwl : (j : Int) + 1 ≤ (n : Int) + 1 := by omega
  have hwl2 : (j : Int) ≤ (n : Int) + 1 := by omega
  have hnj : j + (n + 1 - j) = n + 1 := by omega
  have hjn : j ≤ n := by omega
  go_wp2_with (at_builtin; refine wpList_append_zeros_g _ rfl _ _ 22 3 rfl 3 i0 (.int .i64 0) 8 .i64 Yba.underlying22 Yba.underlying3 hi0 hz0 hz1 hz2 rfl ⟨g, 0, none⟩ j n (cs.take j) HOL.out HOC.out (n + 1 - j) .i64 _ HKK.out (by omega) (by omega) (by unfold maxLen; omega) (by omega) rfl rfl ?_)
  intro w1 cap cur1 hr1 hw1
  obtain ⟨hcap1, hcap2⟩ : n + 1 ≤ cap ∧ cap ≤ 9223372036854775807 := by
    have := hr1.out.2.2.2; unfold maxLen at this; omega
  have hc1 : ¬ (cap = j) := by omega
  have hc2 : ¬ (cap = j + 1) := by omega
  obtain ⟨N, hN⟩ : ∃ N, N = w.heap.size := ⟨_, rfl⟩
  rw [← hN] at hr1 hgw hvw hbase ⊢
  have HN : Hid (N = w.heap.size) := hN
  clear hN
  have hv1 : w1.heap[vb]? = some (.cells #[x] 3 (0, 0)) := by rw [hw1.out.block vb (by rw [← HN.out]; exact hvw) (by simp)]; exact HV.out
  have HC1 : Hid (∀ i u, [x][i]? = some u → w1.cell? ((⟨vb, 0, none⟩ : Addr).add i) = some u) := cells_of_one hv1
  have HF1 : Hid (j + [x].length ≤ cur1.length ∧ [x].length = Nat.min 1 (n + 1 - j) ∧ ∀ u ∈ [x], u.oneCell' = true) := by
    refine ⟨?_, ?_, ?_⟩
    · rw [hr1.out.2.1]; simp; omega
    · simp only [Nat.min_def, List.length_cons, List.length_nil]; split <;> omega
    · intro u hu; simp at hu; subst hu; exact hx
  clear hv1
  go_wp2_with (with_reducible refine wpList_copy_r (.tmp 43) (.tmp 44) 22 22 3 Yba.underlying22 size3 N j (n + 1 - j) (cap - j) ⟨vb, 0, none⟩ 1 1 ?_ _ 3 hr1.out.1 [x] HF1.out.2.1 HC1.out HF1.out.1 HF1.out.2.2 ?_; exact ⟨rfl, rfl, rfl, rfl⟩; intro w2 hg2 hw2)
  have hg0 : w2.heap[g]? = some (.cells cur.toArray 3 (0, 0)) := by
    rw [hw2.out.block g (by have := hw1.out.size; have := HN.out; omega) (by simp; omega), hw1.out.block g (by rw [← HN.out]; exact hgw) (by simp)]; exact HGG.out
  have HCW : Hid (∀ i v, (cs.drop j)[i]? = some v → w2.cell? ((⟨g, j, none⟩ : Addr).add i) = some v) := fun i v hi => by
    rw [Addr.add_lit]
    exact own_cell hg0 HL.out.2.1 (j + i) v (by rwa [List.getElem?_drop] at hi)
  have HF2 : Hid (j + 1 + (cs.drop j).length ≤ (splice cur1 j [x]).length) := by
    show _ ≤ _
    rw [length_splice _ _ _ HF1.out.1, HD.out, hr1.out.2.1]; omega
  clear hg0
  go_region_law (refine step_copy_g rfl _ _ 22 22 rfl 3 Yba.underlying22 size3 N (j + 1) (n + 1 - (j + 1)) (cap - (j + 1)) ⟨g, j, none⟩ (n - j) (n - j) (by simp [Act.eval, Act.put]) (by simp [Act.eval, Act.put]) (splice cur1 j [x]) 3 hg2.out (cs.drop j) (by rw [HD.out]; simp only [Nat.min_def]; split <;> omega) HCW.out HF2.out HL.out.2.2 ?_; intro w3 hg3 hw3)
  go_wp2
  go_ret
  obtain ⟨e1, e2⟩ := splice_new cur1 cs n j x HL.out.1 hr1.out.2.2.1 hj (by rw [hr1.out.2.1]; omega)
  refine ⟨_, _, rfl, own_mk hbase hg3.out (by rw [e2, hr1.out.2.1]) e1 (by have := HL.out.1; simp; omega) hcap1 (by unfold maxLen; omega), ?_, .inr HN.out⟩
  have h3 := grownBy_ofDrew hw3.out
  refine ⟨h3.os.trans (hw2.out.os.trans hw1.out.os), h3.tape.trans (hw2.out.tape.trans hw1.out.tape), h3.output.trans (hw2.out.output.trans hw1.out.output), Nat.le_trans hw1.out.size (Nat.le_trans hw2.out.size h3.size), fun k hk hne => ?_⟩
  have hkN : k ≠ N := by have := HN.out; omega
  rw [h3.block k (by have := hw1.out.size; have := hw2.out.size; omega) (by simp [hkN]), hw2.out.block k (by have := hw1.out.size; omega) (by simp [hkN]), hw1.out.block k hk (by simp)]

/-- slices.Insert at []int: one value put in at place j: the row is its own, in place or new. -/
theorem ins19_any (base g n c j vb : Nat) (cs : List Value) (x : Value) (w : World)
    (hown : w.ownsRow base 3 1 (.slice (some ⟨g, 0, none⟩) n c) n cs) (hj : j ≤ n) (hv : w.heap[vb]? = some (.cells #[x] 3 (0, 0))) (hvb : vb ≠ g)
    (hcs1 : ∀ v ∈ cs, v.oneCell' = true) (hx : x.oneCell' = true) (hn : n ≤ 100000) (hbase : base ≤ w.heap.size) :
    Calls Yba.prog 19 #[.slice (some ⟨g, 0, none⟩) n c, .int .i64 j, .slice (some ⟨vb, 0, none⟩) 1 1] w fun e w' =>
      ∃ g' c', e = .returned (.slice (some ⟨g', 0, none⟩) (n + 1) c') ∧ w'.ownsRow base 3 1 (.slice (some ⟨g', 0, none⟩) (n + 1) c') (n + 1) (cs.take j ++ x :: cs.drop j) ∧ w.grownBy w' (some g) ∧ (g' = g ∨ g' = w.heap.size) := by
  by_cases h1 : j = n
  · subst h1
    have hl : cs.length = j := by simpa using hown.1
    have e : cs.take j ++ x :: cs.drop j = cs ++ [x] := by rw [← hl]; simp
    rw [e]
    exact ins19_end base g j c vb cs x w hown hv hx hn hbase
  · by_cases h2 : n + 1 ≤ c
    · exact ins19_shift base g n c j vb cs x w hown (by omega) h2 hv hvb hcs1 hx hn
    · have := own_caps hown
      obtain rfl : n = c := by omega
      exact ins19_grow base g n j vb cs x w hown (by omega) hv hcs1 hx hn hbase

theorem info22 : (Yba.prog.info? 22).map (fun i => (i.zero, i.size, i.bytes)) = some (some (.slice none 0 0), 1, 24) := by kernel_rfl
theorem size22 : (Yba.prog.info? 22).map (·.size) = some 1 := by kernel_rfl
theorem sizeOf22 (w : World) : (Go.sizeOf 22).run Yba.prog w = .ok 1 w := by kernel_rfl

set_option maxHeartbeats 1000000 in
set_option maxRecDepth 100000 in
/-- slices.Insert at [][]int, AT THE END. -/
theorem ins26_end (base g n c vb : Nat) (cs : List Value) (x : Value) (w : World)
    (hown : w.ownsRow base 22 1 (.slice (some ⟨g, 0, none⟩) n c) n cs) (hv : w.heap[vb]? = some (.cells #[x] 22 (0, 0)))
    (hx : x.oneCell' = true) (hn : n ≤ 100000) (hbase : base ≤ w.heap.size) :
    Calls Yba.prog 26 #[.slice (some ⟨g, 0, none⟩) n c, .int .i64 n, .slice (some ⟨vb, 0, none⟩) 1 1] w fun e w' =>
      ∃ g' c', e = .returned (.slice (some ⟨g', 0, none⟩) (n + 1) c') ∧ w'.ownsRow base 22 1 (.slice (some ⟨g', 0, none⟩) (n + 1) c') (n + 1) (cs ++ [x]) ∧ w.grownBy w' (some g) ∧ (g' = g ∨ g' = w.heap.size) := by
  obtain ⟨i0, hi0, hz0, hz1, hz2⟩ := info_parts info22
  have hnn : ((n : Int) == (n : Int)) = true := by simp
  obtain ⟨hnc, hcm⟩ := own_caps hown
  unfold maxLen at hcm
  have HO : Hid (w.ownsRow base 22 1 (.slice (some ⟨g, 0, none⟩) n c) n cs) := hown
  have hc1 := cells_of_one hv
  have h1 : ∀ u ∈ [x], u.oneCell' = true := by intro u hu; simp at hu; subst hu; exact hx
  have hml : n + 1 ≤ maxLen := by unfold maxLen; omega
  have hmb : (n + 1) * 24 ≤ 140737488355328 := by omega
  clear hown
  go_enter Yba.func26, Yba.ntmps26
  go_wp2_with (at_builtin; refine wpList_append_own2 _ rfl _ _ 30 29 rfl base 22 i0 (.slice none 0 0) 1 24 Yba.underlying30 Yba.underlying29 hi0 hz0 hz1 hz2 rfl (by decide) _ _ _ rfl HO.out ⟨vb, 0, none⟩ 1 1 [x] rfl rfl hc1 h1 hml hmb hbase (by decide) ?_)
  all_goals
    intro v' w1 hown' hgrow H5
    have HO' : Hid (w1.ownsRow base 22 1 v' (n + 1) (cs ++ [x])) := hown'
    have HG : Hid (w.grownBy w1 (some g)) := hgrow
    clear hown' hgrow
    go_wp2
    go_ret
    obtain ⟨g', c', e1, e2⟩ := H5
    subst e1
    exact ⟨g', c', rfl, HO'.out, HG.out, by simpa [Value.ownBlock, eq_comm] using e2⟩

set_option maxHeartbeats 1000000 in
set_option maxRecDepth 100000 in
/-- slices.Insert at [][]int, IN THE MIDDLE, there is room. -/
theorem ins26_shift (base g n c j vb : Nat) (cs : List Value) (x : Value) (w : World)
    (hown : w.ownsRow base 22 1 (.slice (some ⟨g, 0, none⟩) n c) n cs) (hj : j < n) (hroom : n + 1 ≤ c) (hv : w.heap[vb]? = some (.cells #[x] 22 (0, 0))) (hvb : vb ≠ g)
    (hcs1 : ∀ v ∈ cs, v.oneCell' = true) (hx : x.oneCell' = true) (hn : n ≤ 100000) :
    Calls Yba.prog 26 #[.slice (some ⟨g, 0, none⟩) n c, .int .i64 j, .slice (some ⟨vb, 0, none⟩) 1 1] w fun e w' =>
      ∃ g' c', e = .returned (.slice (some ⟨g', 0, none⟩) (n + 1) c') ∧ w'.ownsRow base 22 1 (.slice (some ⟨g', 0, none⟩) (n + 1) c') (n + 1) (cs.take j ++ x :: cs.drop j) ∧ w.grownBy w' (some g) ∧ (g' = g ∨ g' = w.heap.size) := by
  obtain ⟨hnc, hcm⟩ := own_caps hown
  have HB : Hid (base ≤ g ∧ c ≤ maxLen) := ⟨own_base hown, hcm⟩
  unfold maxLen at hcm
  obtain ⟨cur, hg, hcl, htk⟩ := own_row hown
  have hl : cs.length = n := by simpa using hown.1
  have hz2 : ¬ ((j : Int) = (n : Int)) := by omega
  have hov : ∀ lb cb, (callFunc 30 #[.slice (some ⟨vb, 0, none⟩) 1 1, .slice (some ⟨g, j + 1, none⟩) lb cb]).run Yba.prog w = .ok (.value (.bool false)) w := fun lb cb => by
    rw [run_callFunc_extern Yba.func30 (by kernel_rfl) (by kernel_rfl) (by kernel_rfl) (e := Extern.SlicesOverlaps.overlaps #[29, 29] #[4]) (by kernel_rfl),
      Lib.run_overlaps_apart w 29 4 22 Yba.underlying29 1 sizeOf22 ⟨vb, 0, none⟩ ⟨g, j + 1, none⟩ 1 1 lb cb hvb 22 22 1 cur.length (by simp [World.shape?, hv]) (by simp [World.shape?, hg]) (by omega) (by simp [World.frozen?, hv]) (by simp [World.frozen?, hv])]
    rfl
  have hdl : (cs.drop j).length = n - j := by rw [List.length_drop, hl]
  have hb2 : ¬ (c = j + 1) := by omega
  have hwr : IntKind.i64.wrap ((j : Int) + 1) = (j : Int) + 1 := by rw [IntKind.wrap_i64]; omega
  have hwp : (0 : Int) ≤ (j : Int) + 1 := by omega
  have hwn : ((j : Int) + 1).toNat = j + 1 := by omega
  have hwl : (j : Int) + 1 ≤ (n : Int) + 1 := by omega
  have hwl2 : (j : Int) ≤ (n : Int) + 1 := by omega
  have hb4 : ¬ (c = j) := by omega
  have hcw : ∀ i v, (cs.drop j)[i]? = some v → w.cell? ((⟨g, j, none⟩ : Addr).add i) = some v := fun i v hi => by
    rw [Addr.add_lit]
    exact own_cell hg htk (j + i) v (by rwa [List.getElem?_drop] at hi)
  have HL : Hid (cs.length = n ∧ cur.take n = cs ∧ cur.length = c ∧ (∀ v ∈ cs.drop j, v.oneCell' = true)) := ⟨hl, htk, hcl, fun v hv => hcs1 v (List.mem_of_mem_drop hv)⟩
  have HV : Hid (w.heap[vb]? = some (.cells #[x] 22 (0, 0))) := hv
  have HGG : Hid (w.heap[g]? = some (.cells cur.toArray 22 (0, 0))) := hg
  have HCW : Hid (∀ i v, (cs.drop j)[i]? = some v → w.cell? ((⟨g, j, none⟩ : Addr).add i) = some v) := hcw
  have HD : Hid ((cs.drop j).length = n - j) := hdl
  clear hown hl htk hcl hv hg hcw hcs1 hdl
  go_enter Yba.func26, Yba.ntmps26
  go_wp2_with (simp only [hov])
  go_region_law (refine step_copy_g rfl _ _ 30 30 rfl 22 Yba.underlying30 size22 g (j + 1) (n + 1 - (j + 1)) (c - (j + 1)) ⟨g, j, none⟩ (n + 1 - j) (c - j) (by simp [Act.eval, Act.put]) (by simp [Act.eval, Act.put]) cur 22 HGG.out (cs.drop j) (by rw [HD.out]; simp only [Nat.min_def]; split <;> omega) HCW.out (by rw [HD.out, HL.out.2.2.1]; omega) HL.out.2.2.2 ?_; intro w1 hg1 hw1)
  have hw1' : w.grownBy w1 (some g) := grownBy_ofDrew hw1.out
  have hv1 : w1.heap[vb]? = some (.cells #[x] 22 (0, 0)) := by rw [hw1'.block vb (lt_of_block HV.out) (by simp [hvb])]; exact HV.out
  have hc1 := cells_of_one hv1
  have HC1 : Hid (∀ i u, [x][i]? = some u → w1.cell? ((⟨vb, 0, none⟩ : Addr).add i) = some u) := hc1
  clear hw1' hv1 hc1
  have hfit1 : j + [x].length ≤ (splice cur (j + 1) (cs.drop j)).length := by rw [length_splice] <;> simp [HD.out, HL.out.2.2.1] <;> omega
  have hmin1 : [x].length = Nat.min 1 (n + 1 - j) := by simp only [Nat.min_def, List.length_cons, List.length_nil]; split <;> omega
  have h1x : ∀ u ∈ [x], u.oneCell' = true := by intro u hu; simp at hu; subst hu; exact hx
  have HF1 : Hid (j + [x].length ≤ (splice cur (j + 1) (cs.drop j)).length ∧ [x].length = Nat.min 1 (n + 1 - j) ∧ ∀ u ∈ [x], u.oneCell' = true) := ⟨hfit1, hmin1, h1x⟩
  clear hfit1 hmin1 h1x
  go_wp2_with (with_reducible refine wpList_copy_r (.tmp 80) (.tmp 81) 30 29 22 Yba.underlying30 size22 g j (n + 1 - j) (c - j) ⟨vb, 0, none⟩ 1 1 ?_ _ 22 hg1.out [x] HF1.out.2.1 HC1.out HF1.out.1 HF1.out.2.2 ?_; exact ⟨rfl, rfl, rfl, rfl⟩; intro w2 hg2 hw2)
  go_ret
  obtain ⟨e1, e2⟩ := splice_ins cur cs n j x HL.out.1 HL.out.2.1 hj (by rw [HL.out.2.2.1]; omega)
  exact ⟨_, _, rfl, own_mk HB.out.1 hg2.out (by rw [e2, HL.out.2.2.1]) e1 (by have := HL.out.1; simp; omega) hroom HB.out.2, grownBy_trans (grownBy_ofDrew hw1.out) hw2.out, .inl rfl⟩

set_option maxHeartbeats 1000000 in
set_option maxRecDepth 100000 in
/-- slices.Insert at [][]int, IN THE MIDDLE, no room. -/
theorem ins26_grow (base g n j vb : Nat) (cs : List Value) (x : Value) (w : World)
    (hown : w.ownsRow base 22 1 (.slice (some ⟨g, 0, none⟩) n n) n cs) (hj : j < n) (hv : w.heap[vb]? = some (.cells #[x] 22 (0, 0)))
    (hcs1 : ∀ v ∈ cs, v.oneCell' = true) (hx : x.oneCell' = true) (hn : n ≤ 100000) (hbase : base ≤ w.heap.size) :
    Calls Yba.prog 26 #[.slice (some ⟨g, 0, none⟩) n n, .int .i64 j, .slice (some ⟨vb, 0, none⟩) 1 1] w fun e w' =>
      ∃ g' c', e = .returned (.slice (some ⟨g', 0, none⟩) (n + 1) c') ∧ w'.ownsRow base 22 1 (.slice (some ⟨g', 0, none⟩) (n + 1) c') (n + 1) (cs.take j ++ x :: cs.drop j) ∧ w.grownBy w' (some g) ∧ (g' = g ∨ g' = w.heap.size) := by
  obtain ⟨i0, hi0, hz0, hz1, hz2⟩ := info_parts info22
  obtain ⟨cur, hg, hcl, htk⟩ := own_row hown
  have hl : cs.length = n := by simpa using hown.1
  have hzz : ¬ ((j : Int) = (n : Int)) := by omega
  have hdl : (cs.drop j).length = n - j := by rw [List.length_drop, hl]
  have hb4 : ¬ (n = j) := by omega
  have hkk : (n : Int) + 1 - (j : Int) = ((n + 1 - j : Nat) : Int) := by omega
  have hol : (cs.take j).length = j := by simp [hl]; omega
  have hold : ∀ i v, (cs.take j)[i]? = some v → w.cell? ((⟨g, 0, none⟩ : Addr).add i) = some v := fun i v hi => by
    rw [Addr.add_lit, Nat.zero_add]
    exact own_cell hg htk i v (by rw [List.getElem?_take] at hi; split at hi <;> simp_all)
  have hgw := lt_of_block hg
  have hvw := lt_of_block hv
  have HL : Hid (cs.length = n ∧ cur.take n = cs ∧ (∀ v ∈ cs.drop j, v.oneCell' = true)) := ⟨hl, htk, fun v hv => hcs1 v (List.mem_of_mem_drop hv)⟩
  have HV : Hid (w.heap[vb]? = some (.cells #[x] 22 (0, 0))) := hv
  have HGG : Hid (w.heap[g]? = some (.cells cur.toArray 22 (0, 0))) := hg
  have HOL : Hid ((cs.take j).length = j) := hol
  have HOC : Hid (∀ i v, (cs.take j)[i]? = some v → w.cell? ((⟨g, 0, none⟩ : Addr).add i) = some v) := hold
  have HD : Hid ((cs.drop j).length = n - j) := hdl
  have HKK : Hid ((n : Int) + 1 - (j : Int) = ((n + 1 - j : Nat) : Int)) := hkk
  clear hown hl htk hcl hv hg hold hol hcs1 hdl hkk
  go_enter Yba.func26, Yba.ntmps26
  have hwr : IntKind.i64.wrap ((j : Int) + 1) = (j : Int) + 1 := by rw [IntKind.wrap_i64]; omega
  have hwp : (0 : Int) ≤ (j : Int) + 1 := by omega
  have hwn : ((j : Int) + 1).toNat = j + 1 := by omega
  have hwl : (j : Int) + 1 ≤ (n : Int) + 1 := by omega
  have hwl2 : (j : Int) ≤ (n : Int) + 1 := by omega
  have hnj : j + (n + 1 - j) = n + 1 := by omega
  have hjn : j ≤ n := by omega
  go_wp2_with (at_builtin; refine wpList_append_zeros_g _ rfl _ _ 30 3 rfl 22 i0 (.slice none 0 0) 24 .i64 Yba.underlying30 Yba.underlying3 hi0 hz0 hz1 hz2 rfl ⟨g, 0, none⟩ j n (cs.take j) HOL.out HOC.out (n + 1 - j) .i64 _ HKK.out (by omega) (by omega) (by unfold maxLen; omega) (by omega) rfl rfl ?_)
  intro w1 cap cur1 hr1 hw1
  obtain ⟨hcap1, hcap2⟩ : n + 1 ≤ cap ∧ cap ≤ 9223372036854775807 := by
    have := hr1.out.2.2.2; unfold maxLen at this; omega
  have hc1 : ¬ (cap = j) := by omega
  have hc2 : ¬ (cap = j + 1) := by omega
  obtain ⟨N, hN⟩ : ∃ N, N = w.heap.size := ⟨_, rfl⟩
  rw [← hN] at hr1 hgw hvw hbase ⊢
  have HN : Hid (N = w.heap.size) := hN
  clear hN
  have hv1 : w1.heap[vb]? = some (.cells #[x] 22 (0, 0)) := by rw [hw1.out.block vb (by rw [← HN.out]; exact hvw) (by simp)]; exact HV.out
  have HC1 : Hid (∀ i u, [x][i]? = some u → w1.cell? ((⟨vb, 0, none⟩ : Addr).add i) = some u) := cells_of_one hv1
  have HF1 : Hid (j + [x].length ≤ cur1.length ∧ [x].length = Nat.min 1 (n + 1 - j) ∧ ∀ u ∈ [x], u.oneCell' = true) := by
    refine ⟨?_, ?_, ?_⟩
    · rw [hr1.out.2.1]; simp; omega
    · simp only [Nat.min_def, List.length_cons, List.length_nil]; split <;> omega
    · intro u hu; simp at hu; subst hu; exact hx
  clear hv1
  go_wp2_with (with_reducible refine wpList_copy_r (.tmp 43) (.tmp 44) 30 29 22 Yba.underlying30 size22 N j (n + 1 - j) (cap - j) ⟨vb, 0, none⟩ 1 1 ?_ _ 22 hr1.out.1 [x] HF1.out.2.1 HC1.out HF1.out.1 HF1.out.2.2 ?_; exact ⟨rfl, rfl, rfl, rfl⟩; intro w2 hg2 hw2)
  have hg0 : w2.heap[g]? = some (.cells cur.toArray 22 (0, 0)) := by
    rw [hw2.out.block g (by have := hw1.out.size; have := HN.out; omega) (by simp; omega), hw1.out.block g (by rw [← HN.out]; exact hgw) (by simp)]; exact HGG.out
  have HCW : Hid (∀ i v, (cs.drop j)[i]? = some v → w2.cell? ((⟨g, j, none⟩ : Addr).add i) = some v) := fun i v hi => by
    rw [Addr.add_lit]
    exact own_cell hg0 HL.out.2.1 (j + i) v (by rwa [List.getElem?_drop] at hi)
  have HF2 : Hid (j + 1 + (cs.drop j).length ≤ (splice cur1 j [x]).length) := by
    show _ ≤ _
    rw [length_splice _ _ _ HF1.out.1, HD.out, hr1.out.2.1]; omega
  clear hg0
  go_region_law (refine step_copy_g rfl _ _ 30 30 rfl 22 Yba.underlying30 size22 N (j + 1) (n + 1 - (j + 1)) (cap - (j + 1)) ⟨g, j, none⟩ (n - j) (n - j) (by simp [Act.eval, Act.put]) (by simp [Act.eval, Act.put]) (splice cur1 j [x]) 22 hg2.out (cs.drop j) (by rw [HD.out]; simp only [Nat.min_def]; split <;> omega) HCW.out HF2.out HL.out.2.2 ?_; intro w3 hg3 hw3)
  go_wp2
  go_ret
  obtain ⟨e1, e2⟩ := splice_new cur1 cs n j x HL.out.1 hr1.out.2.2.1 hj (by rw [hr1.out.2.1]; omega)
  refine ⟨_, _, rfl, own_mk hbase hg3.out (by rw [e2, hr1.out.2.1]) e1 (by have := HL.out.1; simp; omega) hcap1 (by unfold maxLen; omega), ?_, .inr HN.out⟩
  have h3 := grownBy_ofDrew hw3.out
  refine ⟨h3.os.trans (hw2.out.os.trans hw1.out.os), h3.tape.trans (hw2.out.tape.trans hw1.out.tape), h3.output.trans (hw2.out.output.trans hw1.out.output), Nat.le_trans hw1.out.size (Nat.le_trans hw2.out.size h3.size), fun k hk hne => ?_⟩
  have hkN : k ≠ N := by have := HN.out; omega
  rw [h3.block k (by have := hw1.out.size; have := hw2.out.size; omega) (by simp [hkN]), hw2.out.block k (by have := hw1.out.size; omega) (by simp [hkN]), hw1.out.block k hk (by simp)]

/-- slices.Insert at [][]int: one value put in at place j: the row is its own, in place or new. -/
theorem ins26_any (base g n c j vb : Nat) (cs : List Value) (x : Value) (w : World)
    (hown : w.ownsRow base 22 1 (.slice (some ⟨g, 0, none⟩) n c) n cs) (hj : j ≤ n) (hv : w.heap[vb]? = some (.cells #[x] 22 (0, 0))) (hvb : vb ≠ g)
    (hcs1 : ∀ v ∈ cs, v.oneCell' = true) (hx : x.oneCell' = true) (hn : n ≤ 100000) (hbase : base ≤ w.heap.size) :
    Calls Yba.prog 26 #[.slice (some ⟨g, 0, none⟩) n c, .int .i64 j, .slice (some ⟨vb, 0, none⟩) 1 1] w fun e w' =>
      ∃ g' c', e = .returned (.slice (some ⟨g', 0, none⟩) (n + 1) c') ∧ w'.ownsRow base 22 1 (.slice (some ⟨g', 0, none⟩) (n + 1) c') (n + 1) (cs.take j ++ x :: cs.drop j) ∧ w.grownBy w' (some g) ∧ (g' = g ∨ g' = w.heap.size) := by
  by_cases h1 : j = n
  · subst h1
    have hl : cs.length = j := by simpa using hown.1
    have e : cs.take j ++ x :: cs.drop j = cs ++ [x] := by rw [← hl]; simp
    rw [e]
    exact ins26_end base g j c vb cs x w hown hv hx hn hbase
  · by_cases h2 : n + 1 ≤ c
    · exact ins26_shift base g n c j vb cs x w hown (by omega) h2 hv hvb hcs1 hx hn
    · have := own_caps hown
      obtain rfl : n = c := by omega
      exact ins26_grow base g n j vb cs x w hown (by omega) hv hcs1 hx hn hbase


end Go.Proofs.Ybulkbcge
