import Derived.Test.YbulkbcgeBal
import Derived.Deep.RegionHeld3
namespace Go.Proofs.Ybulkbcge
open Go.RowKit
set_option linter.unusedSimpArgs false
set_option linter.unusedVariables false

set_option maxHeartbeats 800000 in
/-- balance, at a chunk that is neither too long nor too short -/
theorem bal20_keep (base bC ga C i : Nat) (K : List Chk) (k : Chk) (w : World) (h : Store base bC ga C K w) (hk : K[i]? = some k) (hl : k.2.2.length ≤ 256) (hn : K.length ≤ 100000)
    (hok : (K.length = 1 ∧ 0 < k.2.2.length) ∨ 64 ≤ k.2.2.length) :
    Calls Yba.prog 20 #[.pointer (some ⟨bC, 0, none⟩), .int .i64 i] w fun e w' => e = .returned (.tuple #[]) ∧ w' = w := by
  have hi : i < K.length := (List.getElem?_eq_some_iff.1 hk).1
  have c1 := cell_of_one h.head
  have c2 := h.cell hk
  obtain ⟨g, cap, xs⟩ := k
  simp only at c2 hl hok
  clear h
  obtain ⟨N, hN⟩ : ∃ N, N = K.length := ⟨_, rfl⟩
  obtain ⟨l, hl'⟩ : ∃ l, l = xs.length := ⟨_, rfl⟩
  rw [← hN] at c1 hi hok hn
  rw [← hl'] at c2 hl hok
  clear hk hN hl'
  have hg : ¬ ((256 : Int) < (l : Int)) := by omega
  by_cases h1 : N = 1
  · have hb : ((N : Int) == 1) = true := by simp [h1]
    have hz : ((l : Int) == 0) = false := by simp; omega
    have H1 : Hid (N = 1) := h1
    clear h1 hok
    go_enter Yba.func20, Yba.ntmps20
    go_wp2
    go_end0
    exact ⟨rfl, rfl⟩
  · have hb : ((N : Int) == 1) = false := by simp; omega
    have hz : ¬ ((l : Int) < 64) := by omega
    clear hok
    go_enter Yba.func20, Yba.ntmps20
    go_wp2
    go_end0
    exact ⟨rfl, rfl⟩


theorem ins26_at (base g n c j vb : Nat) (cs : List Value) (x : Value) (w : World) (jj : Int) (hjj : jj = (j : Int))
    (hown : w.ownsRow base 22 1 (.slice (some ⟨g, 0, none⟩) n c) n cs) (hj : j ≤ n) (hv : w.heap[vb]? = some (.cells #[x] 22 (0, 0))) (hvb : vb ≠ g)
    (hcs1 : ∀ v ∈ cs, v.oneCell' = true) (hx : x.oneCell' = true) (hn : n ≤ 100000) (hbase : base ≤ w.heap.size) :
    Calls Yba.prog 26 #[.slice (some ⟨g, 0, none⟩) n c, .int .i64 jj, .slice (some ⟨vb, 0, none⟩) 1 1] w fun e w' =>
      ∃ g' c', e = .returned (.slice (some ⟨g', 0, none⟩) (n + 1) c') ∧ w'.ownsRow base 22 1 (.slice (some ⟨g', 0, none⟩) (n + 1) c') (n + 1) (cs.take j ++ x :: cs.drop j) ∧ w.grownBy w' (some g) ∧ (g' = g ∨ g' = w.heap.size) := by
  subst hjj
  exact ins26_any base g n c j vb cs x w hown hj hv hvb hcs1 hx hn hbase

theorem pre26 {base bC ga C N : Nat} {K : List Chk} {w w1 : World} (h : Store base bC ga C K w) (hN : N = K.length) (hg : w.drew.grownBy w1 none) (hc : w.cell? ⟨bC, 0, none⟩ = some (.slice (some ⟨ga, 0, none⟩) N C)) (hbase : base ≤ w.heap.size) :
    w1.cell? ⟨bC, 0, none⟩ = some (.slice (some ⟨ga, 0, none⟩) N C) ∧ bC < w1.heap.size ∧
    Hid (∀ v, (w1.alloc (.cells #[v] 22)).ownsRow base 22 1 (.slice (some ⟨ga, 0, none⟩) N C) N (K.map sv) ∧ (w1.alloc (.cells #[v] 22)).heap[w1.heap.size]? = some (.cells #[v] 22 (0, 0)) ∧ w1.heap.size ≠ ga ∧ base ≤ (w1.alloc (.cells #[v] 22)).heap.size) := by
  have hb := lt_of_block h.head
  have hs : w.heap.size ≤ w1.heap.size := hg.size
  obtain ⟨cur, hga⟩ := own_block h.row
  have hgl := lt_of_block hga
  refine ⟨?_, by omega, fun v => ⟨?_, heap_alloc_new _ _, by omega, by simp; omega⟩⟩
  · rw [World.cell?_of_block (w := w) (hg.block bC hb (by simp))]; exact hc
  · subst hN
    exact (h.row.drew.kept hg (.inr (by simp [Value.ownBlock]))).alloc _

theorem post26 {base bC ga C N : Nat} {K : List Chk} {w w1 w2 : World} {v : Value} (h : Store base bC ga C K w) (hN : N = K.length) (hg : (w1.alloc (.cells #[v] 22)).grownBy w2 (some ga)) (hc : w1.cell? ⟨bC, 0, none⟩ = some (.slice (some ⟨ga, 0, none⟩) N C)) (hs : bC < w1.heap.size)
    (hg1 : w.drew.grownBy w1 none) : w2.heap[bC]? = some (.cells #[.slice (some ⟨ga, 0, none⟩) K.length C] 30 (0, 0)) := by
  rw [hg.block bC (by simp; omega) (by simp [h.ga_ne_bC.symm]), Below.heap_alloc _ _ _ hs, hg1.block bC (lt_of_block h.head) (by simp)]
  exact h.head

/-- half way through a split: the second half has been put in, the first half not yet cut -/
structure Mid (base bC ga2 C2 i : Nat) (K : List Chk) (g2 c2 : Nat) (xs : List Int) (ga : Nat) (w W : World) : Prop where
  head : W.heap[bC]? = some (.cells #[.slice (some ⟨ga2, 0, none⟩) (K.length + 1) C2] 30 (0, 0))
  row : W.ownsRow base 22 1 (.slice (some ⟨ga2, 0, none⟩) (K.length + 1) C2) (K.length + 1) ((K.map sv).take (i + 1) ++ .slice (some ⟨g2, 0, none⟩) 129 c2 :: (K.map sv).drop (i + 1))
  chk : ∀ k ∈ K, W.ownsRow base 3 1 (sv k) k.2.2.length (iv k.2.2)
  two : W.ownsRow base 3 1 (.slice (some ⟨g2, 0, none⟩) 129 c2) 129 (iv (xs.drop 128))
  fr : Fr (fun b => b = bC ∨ b = ga) w W
  new2 : w.heap.size ≤ g2
  size : base ≤ W.heap.size
  nodup : (K.map (·.1)).Nodup
  old : ∀ k ∈ K, k.1 < w.heap.size
  at2 : ga2 = ga ∨ w.heap.size ≤ ga2

theorem after2 {base bC ga C i g2 c2 ga2 C2 N : Nat} {xs : List Int} {K : List Chk} {w w1 w2 : World} (h : Store base bC ga C K w) (hN : N = K.length) (hbC : bC < base) (hbase : base ≤ w.heap.size)
    (hgr2 : w.drew.grownBy w1 none) (hown2 : w1.ownsRow base 3 1 (.slice (some ⟨g2, 0, none⟩) 129 c2) 129 (iv (xs.drop 128))) (hge2 : w.drew.heap.size ≤ g2)
    (hown3 : w2.ownsRow base 22 1 (.slice (some ⟨ga2, 0, none⟩) (N + 1) C2) (N + 1) ((K.map sv).take (i + 1) ++ .slice (some ⟨g2, 0, none⟩) 129 c2 :: (K.map sv).drop (i + 1)))
    (hgr3 : (w1.alloc (.cells #[.slice (some ⟨g2, 0, none⟩) 129 c2] 22)).grownBy w2 (some ga)) (hor3 : ga2 = ga ∨ ga2 = (w1.alloc (.cells #[.slice (some ⟨g2, 0, none⟩) 129 c2] 22)).heap.size) :
    Mid base bC ga2 C2 i K g2 c2 xs ga w (w2.setCell ⟨bC, 0, none⟩ (.slice (some ⟨ga2, 0, none⟩) (N + 1) C2)) := by
  subst hN
  have hb := lt_of_block h.head
  have hs1 : w.heap.size ≤ w1.heap.size := hgr2.size
  obtain ⟨cur, hga⟩ := own_block h.row
  have hgl := lt_of_block hga
  have hge2' : w.heap.size ≤ g2 := hge2
  obtain ⟨cur2, hg2⟩ := own_block hown2
  have hg2l := lt_of_block hg2
  have hbga : base ≤ ga := own_base h.row
  have f1 : Fr (fun b => b = bC ∨ b = ga) w w1 := ((Fr.ofGrown hgr2).ofDrew).mono (fun k _ e => by simp at e)
  have f2 : Fr (fun b => b = bC ∨ b = ga) w1 w2 := ((Fr.refl (fun b => b = bC ∨ b = ga) w1).alloc _).trans (Fr.ofGrown hgr3) (fun k _ e => .inr (by simpa using e))
  have f3 : Fr (fun b => b = bC ∨ b = ga) w2 (w2.setCell ⟨bC, 0, none⟩ (.slice (some ⟨ga2, 0, none⟩) (K.length + 1) C2)) := (Fr.refl _ w2).setCell (p := ⟨bC, 0, none⟩) (.inl rfl) _
  have f23 := f2.trans f3 (fun _ _ e => e)
  have f := f1.trans f23 (fun _ _ e => e)
  have hga2 : ga2 = ga ∨ w.heap.size ≤ ga2 := by
    rcases hor3 with e | e
    · exact .inl e
    · exact .inr (by rw [e]; simp; omega)
  have hga2b : ga2 ≠ bC := by
    have := own_base hown3; omega
  have hh2 : w2.heap[bC]? = some (.cells #[.slice (some ⟨ga, 0, none⟩) K.length C] 30 (0, 0)) := by
    rw [hgr3.block bC (by simp; omega) (by simp [h.ga_ne_bC.symm]), Below.heap_alloc _ _ _ (by omega), hgr2.block bC hb (by simp)]
    exact h.head
  refine ⟨one_setCell hh2, ?_, fun k hk => ?_, ?_, f, hge2, Nat.le_trans hbase f.size, h.nodup, fun k hk => h.lt hk, hga2⟩
  · exact ownsRow_setCell_other hown3 (by simpa [Value.ownBlock] using hga2b) _
  · refine f.owns (h.chk k hk) (fun j hj => ?_)
    simp [sv, Value.ownBlock] at hj
    rw [← hj]
    exact fun e => e.elim (h.chk_ne_bC hk) (h.chk_ne_ga hk)
  · refine f23.owns hown2 (fun j hj => ?_)
    simp [Value.ownBlock] at hj
    rw [← hj]
    omega

theorem mid_cells {base bC ga2 C2 i g2 c2 ga g cap : Nat} {K : List Chk} {xs : List Int} {w W : World} (m : Mid base bC ga2 C2 i K g2 c2 xs ga w W) (hk : K[i]? = some (g, cap, xs)) (hl : xs.length = 257) :
    Hid (∀ j u, (iv (xs.take 128))[j]? = some u → W.drew.cell? ((⟨g, 0, none⟩ : Addr).add j) = some u) ∧ Hid ((iv (xs.take 128)).length = 128) := by
  refine ⟨fun j u hu => ?_, (by simp [iv, hl] : (iv (xs.take 128)).length = 128)⟩
  obtain ⟨cur, hg, _, ht⟩ := own_row (m.chk _ (List.mem_of_getElem? hk))
  rw [Addr.add_lit, Nat.zero_add]
  have hu' : (iv xs)[j]? = some u := by
    simp only [iv, List.map_take, List.getElem?_take] at hu
    split at hu
    · exact hu
    · cases hu
  exact own_cell hg ht j u hu'

theorem mid_store {base bC ga2 C2 i g2 c2 ga : Nat} {K : List Chk} {xs : List Int} {w W w4 : World} (m : Mid base bC ga2 C2 i K g2 c2 xs ga w W) (hi : i < K.length) (hgr : W.drew.grownBy w4 none) :
    (∃ v, w4.cell? ⟨ga2, i, none⟩ = some v) ∧ w4.frozen? ⟨ga2, i, none⟩ = false ∧ ga2 ≠ bC := by
  obtain ⟨cura, hga⟩ := own_block m.row
  have ho : w4.ownsRow base 22 1 (.slice (some ⟨ga2, 0, none⟩) (K.length + 1) C2) (K.length + 1) ((K.map sv).take (i + 1) ++ .slice (some ⟨g2, 0, none⟩) 129 c2 :: (K.map sv).drop (i + 1)) :=
    m.row.drew.kept hgr (.inr (by simp [Value.ownBlock]))
  refine ⟨?_, ho.frozenAt i, fun e => by have := m.head; rw [← e, hga] at this; simp at this⟩
  have hc := ho.cellAt i (by omega)
  rw [List.getElem?_eq_getElem (by have := ho.1; omega)] at hc
  exact ⟨_, hc⟩

theorem take_drop_set {α : Type} (l : List α) (i : Nat) (x y : α) (hi : i < l.length) : (l.take (i + 1) ++ y :: l.drop (i + 1)).set i x = l.take i ++ x :: y :: l.drop (i + 1) := by
  rw [List.set_append_left _ _ (by simp; omega), List.take_succ_eq_append_getElem hi, List.set_append_right _ _ (by simp; omega)]
  simp [Nat.min_eq_left (Nat.le_of_lt hi)]

theorem after3 {base bC ga i g cap g2 c2 ga2 C2 g1 c1 : Nat} {xs : List Int} {K : List Chk} {w W w4 : World} (m : Mid base bC ga2 C2 i K g2 c2 xs ga w W) (hk : K[i]? = some (g, cap, xs)) (hl : xs.length = 257)
    (hgr : W.drew.grownBy w4 none) (hown : w4.ownsRow base 3 1 (.slice (some ⟨g1, 0, none⟩) 128 c1) 128 (iv (xs.take 128))) (hge : W.drew.heap.size ≤ g1) (hbC : bC < base) :
    Store base bC ga2 C2 (K.take i ++ (g1, c1, xs.take 128) :: (g2, c2, xs.drop 128) :: K.drop (i + 1)) (w4.setCell ⟨ga2, i, none⟩ (.slice (some ⟨g1, 0, none⟩) 128 c1)) ∧
      Fr (fun b => b = bC ∨ b = ga) w (w4.setCell ⟨ga2, i, none⟩ (.slice (some ⟨g1, 0, none⟩) 128 c1)) ∧ w.heap.size ≤ g1 ∧ w.heap.size ≤ g2 := by
  have hi : i < K.length := (List.getElem?_eq_some_iff.1 hk).1
  have hgeW : W.heap.size ≤ g1 := hge
  have hsW := m.fr.size
  obtain ⟨cur2, hg2⟩ := own_block m.two
  obtain ⟨cura, hga⟩ := own_block m.row
  have f1 : Fr (fun _ => False) W w4 := ((Fr.ofGrown hgr).ofDrew).mono (fun k _ e => by simp at e)
  have hga4 : w4.heap[ga2]? = some (.cells cura 22 (0, 0)) := by rw [f1.block ga2 (lt_of_block hga) (fun e => e)]; exact hga
  have f2 : Fr (fun b => b = ga2) w4 (w4.setCell ⟨ga2, i, none⟩ (.slice (some ⟨g1, 0, none⟩) 128 c1)) := Fr.setCell (S := fun b => b = ga2) (Fr.refl _ w4) (p := ⟨ga2, i, none⟩) rfl _
  have f12 : Fr (fun b => b = ga2) W (w4.setCell ⟨ga2, i, none⟩ (.slice (some ⟨g1, 0, none⟩) 128 c1)) := (f1.mono (fun _ _ e => e.elim)).trans f2 (fun _ _ e => e)
  have hne2 : g2 ≠ ga2 := fun e => by rw [e, hga] at hg2; simp at hg2
  have hneb : ga2 ≠ bC := fun e => by have := m.head; rw [← e, hga] at this; simp at this
  have hlk : ∀ k ∈ K, k.1 ≠ ga2 := fun k hk e => by
    obtain ⟨cur, hg⟩ := own_block (m.chk k hk)
    rw [e, hga] at hg; simp at hg
  have hg1a : g1 ≠ ga2 := by have := lt_of_block hga; omega
  have hlen : (K.take i ++ (g1, c1, xs.take 128) :: (g2, c2, xs.drop 128) :: K.drop (i + 1)).length = K.length + 1 := by simp; omega
  refine ⟨⟨?_, ?_, ?_, ?_⟩, ?_, by omega, m.new2⟩
  · rw [hlen, f12.block bC (lt_of_block m.head) (fun e => hneb e.symm)]
    exact m.head
  · rw [hlen]
    have := ((f1.owns m.row (fun _ _ e => e)).stored i (.slice (some ⟨g1, 0, none⟩) 128 c1)).1
    rw [take_drop_set _ _ _ _ (by simpa using hi)] at this
    simpa [List.map_append, List.map_take, List.map_drop, sv, hl] using this
  · intro k hkm
    simp only [List.mem_append, List.mem_cons] at hkm
    have hKK : ∀ k ∈ K, (w4.setCell ⟨ga2, i, none⟩ (.slice (some ⟨g1, 0, none⟩) 128 c1)).ownsRow base 3 1 (sv k) k.2.2.length (iv k.2.2) := fun k hk =>
      f12.owns (m.chk k hk) (fun j hj => by simp [sv, Value.ownBlock] at hj; rw [← hj]; exact hlk k hk)
    rcases hkm with hm | rfl | rfl | hm
    · exact hKK k (List.mem_of_mem_take hm)
    · have := f2.owns hown (fun j hj => by simp [Value.ownBlock] at hj; rw [← hj]; exact hg1a)
      simpa [sv, hl] using this
    · have := f12.owns m.two (fun j hj => by simp [Value.ownBlock] at hj; rw [← hj]; exact hne2)
      simpa [sv, hl] using this
    · exact hKK k (List.mem_of_mem_drop hm)
  · have hnd := m.nodup
    have hsplit : K = K.take i ++ (g, cap, xs) :: K.drop (i + 1) := by
      conv => lhs; rw [← List.take_append_drop i K, List.drop_eq_getElem_cons hi]
      rw [(List.getElem?_eq_some_iff.1 hk).2]
    have hg12 : g1 ≠ g2 := by have := lt_of_block hg2; omega
    have ho := m.old
    have hn2 := m.new2
    rw [hsplit] at hnd ho
    simp only [List.map_append, List.map_cons, List.nodup_append, List.nodup_cons, List.mem_cons] at hnd ⊢
    obtain ⟨n1, ⟨n2, n3⟩, n4⟩ := hnd
    have hoT : ∀ b ∈ (K.take i).map (·.1), b < w.heap.size := fun b hb => by
      obtain ⟨k, hk, rfl⟩ := List.mem_map.1 hb; exact ho k (by simp [hk])
    have hoD : ∀ b ∈ (K.drop (i + 1)).map (·.1), b < w.heap.size := fun b hb => by
      obtain ⟨k, hk, rfl⟩ := List.mem_map.1 hb; exact ho k (by simp [hk])
    refine ⟨n1, ⟨?_, fun e => ?_, n3⟩, ?_⟩
    · rintro (e | e)
      · exact hg12 e
      · have := hoD _ e; omega
    · have := hoD _ e; omega
    · rintro a ha b (rfl | rfl | hb)
      · have := hoT _ ha; omega
      · have := hoT _ ha; omega
      · exact n4 a ha b (.inr hb)
  · refine m.fr.trans f12 (fun k hk e => ?_)
    rcases m.at2 with e2 | e2
    · exact .inr (by rw [e, e2])
    · omega

end Go.Proofs.Ybulkbcge
