import Derived.Test.YbulkbcgeBal3
import Derived.Deep.DrawnRows
namespace Go.Proofs.Ybulkbcge
open Go.RowKit
set_option linter.unusedSimpArgs false
set_option linter.unusedVariables false
attribute [local go_sem ↓] Go.wp_at_zero Go.wp_at_succ

theorem store_sees {base bC ga C bc : Nat} {K : List Chk} {w : World} (h : Store base bC ga C K w) (hbc : bc < base) (hK : ∀ k ∈ K, 0 < k.2.2.length ∧ k.2.2.length ≤ 256) :
    Sees w ga K.length bc (fun t => (K.getD t default).1) (fun t => (K.getD t default).2.2.length) (fun t => (K.getD t default).2.1) (fun t => (K.getD t default).2.2.getLastD 0) := by
  have key : ∀ t, t < K.length → K[t]? = some (K.getD t default) := fun t ht => by simp [ht]
  have mem : ∀ t, t < K.length → K.getD t default ∈ K := fun t ht => List.mem_of_getElem? (key t ht)
  refine ⟨fun t ht => h.cell (key t ht), fun t ht => ?_, fun t ht => ?_, ?_, fun t ht => ?_⟩
  · have hp := (hK _ (mem t ht)).1
    rw [h.elem (mem t ht) _ (by omega)]
    generalize (K.getD t default).2.2 = l at hp
    rw [List.getLastD_eq_getLast?, List.getLast?_eq_getElem?]
    simp
  · have := hK _ (mem t ht); omega
  · have := own_base h.row; omega
  · have := own_base (h.chk _ (mem t ht)); omega

theorem empty_store {base bC : Nat} {v : Int} {w : World} (h : w.heap[bC]? = some (.cells #[.slice none 0 0] 30 (0, 0))) (hbase : base ≤ w.heap.size) :
    ∃ ga C g c, Store base bC ga C [(g, c, [v])] (((w.setCell ⟨bC, 0, none⟩ (.slice (some ⟨w.heap.size + 1, 0, none⟩) 1 1)).alloc (.cells #[.int .i64 v] 3)).alloc (.cells #[.slice (some ⟨w.heap.size, 0, none⟩) 1 1] 22)) ∧
      Fr (fun b => b = bC) w (((w.setCell ⟨bC, 0, none⟩ (.slice (some ⟨w.heap.size + 1, 0, none⟩) 1 1)).alloc (.cells #[.int .i64 v] 3)).alloc (.cells #[.slice (some ⟨w.heap.size, 0, none⟩) 1 1] 22)) ∧ w.heap.size ≤ g := by
  have hl := lt_of_block h
  have hs : (w.setCell ⟨bC, 0, none⟩ (.slice (some ⟨w.heap.size + 1, 0, none⟩) 1 1)).heap.size = w.heap.size := by simp [World.setCell]
  have h1 := one_setCell (u := .slice (some ⟨w.heap.size + 1, 0, none⟩) 1 1) h
  have f : Fr (fun b => b = bC) w (((w.setCell ⟨bC, 0, none⟩ (.slice (some ⟨w.heap.size + 1, 0, none⟩) 1 1)).alloc (.cells #[.int .i64 v] 3)).alloc (.cells #[.slice (some ⟨w.heap.size, 0, none⟩) 1 1] 22)) :=
    ((Fr.setCell (S := fun b => b = bC) (Fr.refl _ w) (p := ⟨bC, 0, none⟩) rfl _).alloc _).alloc _
  generalize w.setCell ⟨bC, 0, none⟩ (.slice (some ⟨w.heap.size + 1, 0, none⟩) 1 1) = u at hs h1 f ⊢
  refine ⟨w.heap.size + 1, 1, w.heap.size, 1, ⟨?_, ?_, ?_, by simp⟩, f, Nat.le_refl _⟩
  · rw [Below.heap_alloc _ _ _ (by simp; omega), Below.heap_alloc _ _ _ (by omega)]; exact h1
  · refine own_mk (cur := [.slice (some ⟨w.heap.size, 0, none⟩) 1 1]) (by omega) ?_ rfl rfl rfl (Nat.le_refl _) (by unfold maxLen; omega)
    rw [show w.heap.size + 1 = (u.alloc (.cells #[.int .i64 v] 3)).heap.size by simp [hs]]
    exact heap_alloc_new _ _
  · intro k hk
    simp only [List.mem_singleton] at hk
    subst hk
    refine own_mk (cur := [.int .i64 v]) hbase ?_ rfl rfl rfl (Nat.le_refl _) (by unfold maxLen; simp)
    rw [Below.heap_alloc _ _ _ (by simp; omega), ← hs]
    exact heap_alloc_new _ _

set_option maxHeartbeats 800000 in
/-- insert, into an empty chunked -/
theorem insert13_empty (base bC : Nat) (v : Int) (bc bd : Nat) (w : World) (h : w.heap[bC]? = some (.cells #[.slice none 0 0] 30 (0, 0))) (hbase : base ≤ w.heap.size) :
    Calls Yba.prog 13 #[.pointer (some ⟨bC, 0, none⟩), .int .i64 v, .func (.func 11) #[] #[.pointer (some ⟨bc, 0, none⟩), .pointer (some ⟨bd, 0, none⟩)]] w fun e w' =>
      e = .returned (.tuple #[]) ∧ ∃ ga C g c, Store base bC ga C [(g, c, [v])] w' ∧ Fr (fun b => b = bC) w w' ∧ w.heap.size ≤ g := by
  have c1 := cell_of_one h
  have f1 := free_of_one h
  have HH : Hid (w.heap[bC]? = some (.cells #[.slice none 0 0] 30 (0, 0))) := h
  have hl := lt_of_block h
  clear h
  go_enter Yba.func13, Yba.ntmps13
  go_wp2
  exact bodyPost_ret (v := .tuple #[]) (by simp [results, Yba.results13, go_sem]) rfl ⟨rfl, empty_store HH.out hbase⟩

theorem nodup_set {α : Type} {l : List α} (h : l.Nodup) {a : α} (ha : ∀ b ∈ l, b ≠ a) (i : Nat) : (l.set i a).Nodup := by
  induction l generalizing i with
  | nil => simp
  | cons x r ih =>
    rw [List.nodup_cons] at h
    cases i with
    | zero =>
      rw [List.set_cons_zero, List.nodup_cons]
      exact ⟨fun hm => ha a (by simp [hm]) rfl, h.2⟩
    | succ i =>
      rw [List.set_cons_succ, List.nodup_cons]
      refine ⟨fun hm => ?_, ih h.2 (fun b hb => ha b (by simp [hb])) i⟩
      rcases List.mem_or_eq_of_mem_set hm with hm | hm
      · exact h.1 hm
      · exact ha x (by simp) hm

def insAt (xs : List Int) (j : Nat) (v : Int) : List Int := xs.take j ++ v :: xs.drop j
theorem insAt_length (xs : List Int) (j : Nat) (v : Int) (hj : j ≤ xs.length) : (insAt xs j v).length = xs.length + 1 := by simp [insAt]; omega
theorem iv_insAt (xs : List Int) (j : Nat) (v : Int) : iv (insAt xs j v) = (iv xs).take j ++ .int .i64 v :: (iv xs).drop j := by simp [iv, insAt, List.map_take, List.map_drop]

/-- what one insertion does to the chunks' contents -/
def Xstep (d : Bool) (v : Int) (X X' : List (List Int)) : Prop :=
  ∃ i xs j, X[i]? = some xs ∧ j ≤ xs.length ∧ (∀ t, t < j → kd d (xs.getD t 0) < kd d v) ∧ (∀ t, j ≤ t → t < xs.length → kd d v ≤ kd d (xs.getD t 0)) ∧
    (∀ t, t < i → kd d ((X.getD t []).getLastD 0) < kd d v) ∧ (i + 1 < X.length → kd d v ≤ kd d (xs.getLastD 0)) ∧
    X' = if xs.length ≤ 255 then X.set i (insAt xs j v) else X.take i ++ (insAt xs j v).take 128 :: (insAt xs j v).drop 128 :: X.drop (i + 1)

theorem pre19 {base bC ga C i0 g cap l : Nat} {xs : List Int} {K : List Chk} {w2 : World} (h : Store base bC ga C K w2) (hk : K[i0]? = some (g, cap, xs)) (hl : l = xs.length) (hbase : base ≤ w2.heap.size) (o : Obj) :
    (w2.alloc o).ownsRow base 3 1 (.slice (some ⟨g, 0, none⟩) l cap) l (iv xs) ∧ w2.heap.size ≠ g ∧ base ≤ (w2.alloc o).heap.size := by
  subst hl
  have hm := List.mem_of_getElem? hk
  have := h.lt hm
  exact ⟨(h.chk _ hm).alloc o, by simp only at this; omega, by simp; omega⟩

theorem post19 {base bC ga C i0 g cap l j g' c' : Nat} {xs : List Int} {v : Int} {K : List Chk} {w2 w3 : World} (h : Store base bC ga C K w2) (hk : K[i0]? = some (g, cap, xs)) (hl : l = xs.length) (hj : j ≤ xs.length)
    (hown : w3.ownsRow base 3 1 (.slice (some ⟨g', 0, none⟩) (l + 1) c') (l + 1) ((iv xs).take j ++ .int .i64 v :: (iv xs).drop j))
    (hgr : (w2.alloc (.cells #[.int .i64 v] 3)).grownBy w3 (some g)) (hor : g' = g ∨ g' = (w2.alloc (.cells #[.int .i64 v] 3)).heap.size) :
    Store base bC ga C (K.set i0 (g', c', insAt xs j v)) (w3.setCell ⟨ga, i0, none⟩ (.slice (some ⟨g', 0, none⟩) (l + 1) c')) ∧
    Fr (fun b => b = ga ∨ b = g) w2 (w3.setCell ⟨ga, i0, none⟩ (.slice (some ⟨g', 0, none⟩) (l + 1) c')) ∧ (g' = g ∨ w2.heap.size ≤ g') ∧
    (∃ u, w3.cell? ⟨ga, i0, none⟩ = some u) ∧ w3.frozen? ⟨ga, i0, none⟩ = false ∧ w3.cell? ⟨bC, 0, none⟩ = some (.slice (some ⟨ga, 0, none⟩) K.length C) := by
  have hi : i0 < K.length := (List.getElem?_eq_some_iff.1 hk).1
  have hm := List.mem_of_getElem? hk
  have hgga : g ≠ ga := h.chk_ne_ga hm
  have hgbC : g ≠ bC := h.chk_ne_bC hm
  have hglt : g < w2.heap.size := h.lt hm
  have f0 : Fr (fun b => b = ga ∨ b = g) w2 w3 := ((Fr.refl (fun b => b = ga ∨ b = g) w2).alloc _).trans (Fr.ofGrown hgr) (fun k _ e => .inr (by simpa using e))
  have f0' : Fr (fun b => b = g) w2 w3 := ((Fr.refl (fun b => b = g) w2).alloc _).trans (Fr.ofGrown hgr) (fun k _ e => by simpa using e)
  have f1 : Fr (fun b => b = ga) w3 (w3.setCell ⟨ga, i0, none⟩ (.slice (some ⟨g', 0, none⟩) (l + 1) c')) := Fr.setCell (S := fun b => b = ga) (Fr.refl _ w3) (p := ⟨ga, i0, none⟩) rfl _
  have hrow3 : w3.ownsRow base 22 1 (.slice (some ⟨ga, 0, none⟩) K.length C) K.length (K.map sv) := f0'.owns h.row (fun k hk => by simp [Value.ownBlock] at hk; rw [← hk]; exact hgga.symm)
  have hg' : g' = g ∨ w2.heap.size ≤ g' := by
    rcases hor with e | e
    · exact .inl e
    · exact .inr (by rw [e]; simp)
  have hg'ga : g' ≠ ga := by
    obtain ⟨cur, hga⟩ := own_block hrow3
    obtain ⟨cur', hg⟩ := own_block hown
    intro e; rw [e, hga] at hg; simp at hg
  refine ⟨⟨?_, ?_, ?_, ?_⟩, f0.trans f1 (fun _ _ e => .inl e), hg', ?_, hrow3.frozenAt i0, ?_⟩
  · rw [List.length_set, f1.block bC (Nat.lt_of_lt_of_le (lt_of_block h.head) f0.size) h.ga_ne_bC.symm, f0'.block bC (lt_of_block h.head) hgbC.symm]
    exact h.head
  · have := (hrow3.stored i0 (.slice (some ⟨g', 0, none⟩) (l + 1) c')).1
    rw [List.length_set]
    rw [List.map_set]
    simpa [sv, insAt_length xs j v hj, hl] using this
  · intro k hkm
    rcases List.mem_or_eq_of_mem_set hkm with hk2 | rfl
    · by_cases e : k.1 = g
      · -- the same block: then it is the very chunk that was replaced
        exfalso
        have hnd := h.nodup
        obtain ⟨p, hp, hpk⟩ := List.mem_iff_getElem.1 hkm
        rw [List.length_set] at hp
        rw [List.getElem_set] at hpk
        split at hpk
        · rename_i hip
          have e1 : (K.map (·.1))[i0]? = some g := by simp [hk]
          obtain ⟨s, hs, hsk⟩ := List.mem_iff_getElem.1 hk2
          have e2 : (K.map (·.1))[s]? = some g := by simp [hs, hsk, e]
          have hsi : s = i0 := (List.getElem?_inj (by simpa using hs) hnd).1 (e2.trans e1.symm) 
          subst hsi
          rw [List.getElem?_eq_getElem hi] at hk
          simp only [Option.some.injEq] at hk
          rw [hk] at hsk
          rw [← hpk] at hsk
          have := congrArg (fun x : Chk => x.2.2.length) hsk
          simp [insAt_length xs j v hj] at this
        · rename_i hip
          have e1 : (K.map (·.1))[i0]? = some g := by simp [hk]
          have e2 : (K.map (·.1))[p]? = some g := by simp [hp, hpk, e]
          exact hip ((List.getElem?_inj (by simpa using hi) hnd).1 (e1.trans e2.symm))
      · refine f1.owns (f0'.owns (h.chk k hk2) (fun b hb => ?_)) (fun b hb => ?_)
        · simp [sv, Value.ownBlock] at hb; rw [← hb]; exact e
        · simp [sv, Value.ownBlock] at hb; rw [← hb]; exact h.chk_ne_ga hk2
    · have := f1.owns hown (fun b hb => by simp [Value.ownBlock] at hb; rw [← hb]; exact hg'ga)
      simpa [sv, insAt_length xs j v hj, hl, iv_insAt] using this
  · rw [List.map_set]
    rcases hg' with e | e
    · rw [e]
      have : (K.map (·.1)).set i0 g = K.map (·.1) := by
        apply List.ext_getElem?
        intro p
        rw [List.getElem?_set]
        split
        · rename_i hp; subst hp; simp [hi, hk]
          have := (List.getElem?_eq_some_iff.1 hk).2; rw [this]
        · rfl
      simp only
      rw [this]; exact h.nodup
    · have hlt : ∀ b ∈ K.map (·.1), b ≠ g' := fun b hb => by
        obtain ⟨k, hk, rfl⟩ := List.mem_map.1 hb
        have := h.lt hk; omega
      exact nodup_set h.nodup hlt i0
  · have hc := hrow3.cellAt i0 (by omega)
    rw [List.getElem?_eq_getElem (by simpa using hi)] at hc
    exact ⟨_, hc⟩
  · exact cell_of_one (by rw [f0'.block bC (lt_of_block h.head) hgbC.symm]; exact h.head)

end Go.Proofs.Ybulkbcge
