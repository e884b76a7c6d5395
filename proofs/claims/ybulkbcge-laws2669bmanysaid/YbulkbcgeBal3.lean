import Derived.Test.YbulkbcgeBal2
import Derived.Deep.DrawnRows
namespace Go.Proofs.Ybulkbcge
open Go.RowKit
set_option linter.unusedSimpArgs false
set_option linter.unusedVariables false
attribute [local go_sem ↓] Go.wp_at_zero Go.wp_at_succ

set_option maxHeartbeats 1600000 in
/-- balance, at a chunk that has grown to 257 -/
theorem bal20_split (base bC ga C i g cap : Nat) (xs : List Int) (K : List Chk) (w : World) (h : Store base bC ga C K w) (hk : K[i]? = some (g, cap, xs)) (hl : xs.length = 257) (hn : K.length ≤ 100000)
    (hbase : base ≤ w.heap.size) (hbC : bC < base) :
    Calls Yba.prog 20 #[.pointer (some ⟨bC, 0, none⟩), .int .i64 i] w fun e w' => e = .returned (.tuple #[]) ∧
      ∃ ga' C' g1 c1 g2 c2, Store base bC ga' C' (K.take i ++ (g1, c1, xs.take 128) :: (g2, c2, xs.drop 128) :: K.drop (i + 1)) w' ∧ Fr (fun b => b = bC ∨ b = ga) w w' ∧ w.heap.size ≤ g1 ∧ w.heap.size ≤ g2 := by
  have hi : i < K.length := (List.getElem?_eq_some_iff.1 hk).1
  have hkm : (g, cap, xs) ∈ K := List.mem_of_getElem? hk
  have c1 := cell_of_one h.head
  have c2 := h.cell hk
  have hcaps := own_caps (h.chk _ hkm)
  simp only [hl] at c2 hcaps
  obtain ⟨hc1, hc2⟩ := hcaps
  unfold maxLen at hc2
  have HK : Hid (Store base bC ga C K w ∧ K[i]? = some (g, cap, xs) ∧ xs.length = 257) := ⟨h, hk, hl⟩
  have hel : ∀ off (ys : List Int), (∀ j, j < ys.length → ys.getD j 0 = xs.getD (off + j) 0) → off + ys.length ≤ 257 → ∀ j u, (iv ys)[j]? = some u → w.drew.cell? ((⟨g, off, none⟩ : Addr).add j) = some u := by
    intro off ys hy hle j u hu
    have hj : j < ys.length := by
      have := (List.getElem?_eq_some_iff.1 hu).1; simpa [iv] using this
    rw [Addr.add_lit]
    have e1 := h.elem hkm (off + j) (by simp only [hl]; omega)
    have e2 : u = .int .i64 (ys.getD j 0) := by
      simp only [iv, List.getElem?_map] at hu
      simp [hj] at hu
      simp [hj, hu]
    rw [e2, hy j hj]
    exact e1
  have HD : Hid (∀ j u, (iv (xs.drop 128))[j]? = some u → w.drew.cell? ((⟨g, 128, none⟩ : Addr).add j) = some u) := hel 128 (xs.drop 128) (by intro j hj; simp) (by simp [hl])
  have HL2 : Hid ((iv (xs.drop 128)).length = 129) := (by simp [iv, hl] : (iv (xs.drop 128)).length = 129)
  clear h hk hkm hel hl
  obtain ⟨N, hN⟩ : ∃ N, N = K.length := ⟨_, rfl⟩
  rw [← hN] at c1 hi hn
  have HN : Hid (N = K.length) := hN
  clear hN
  have hb1 : IntKind.i64.wrap ((i : Int) + 1) = (i : Int) + 1 := by rw [IntKind.wrap_i64]; omega
  have hb2 : ¬ (cap = 128) := by omega
  have hi1 : (i : Int) < (N : Int) + 1 := by omega
  have hi2 : i < N + 1 := by omega
  have hb3 : (128 : Int) ≤ (cap : Int) := by omega
  have hb4 : IntKind.i64.wrap 128 = 128 := by decide
  have hb5 : IntKind.i64.wrap (Int.tdiv 257 2) = 128 := by decide
  go_enter Yba.func20, Yba.ntmps20
  go_wp2
  go_region_with (first
    | (go_at_call 27; refine (clone27_any base g 128 129 (cap - 128) (iv (xs.drop 128)) w.drew HL2.out (by omega) HD.out (iv_one _) hbase (by omega)).mono ?_; rintro e w1 ⟨g2, c2', rfl, hown2, hgr2, hge2⟩; obtain ⟨hcC1, hsz1, H26⟩ := pre26 HK.out.1 HN.out hgr2 c1 hbase)
    | (go_at_call 26; go_loud (refine (ins26_at base ga N C (i + 1) w1.heap.size (K.map sv) (.slice (some ⟨g2, 0, none⟩) 129 c2') (w1.alloc (.cells #[.slice (some ⟨g2, 0, none⟩) 129 c2'] 22)) ((i : Int) + 1) (by omega) (H26.out _).1 (by omega) (H26.out _).2.1 (H26.out (.slice (some ⟨g2, 0, none⟩) 129 c2')).2.2.1 (sv_one K) rfl hn (H26.out _).2.2.2).mono ?_); rintro e w2 ⟨ga2, C2, rfl, hown3, hgr3, hor3⟩; have hh2 := post26 HK.out.1 HN.out hgr3 hcC1 hsz1 hgr2; have hcC2 := cell_of_one hh2; have hfC2 := free_of_one hh2))
  all_goals
    have hm := after2 HK.out.1 HN.out hbC hbase hgr2 hown2 hge2 hown3 hgr3 hor3
    generalize w2.setCell ⟨bC, 0, none⟩ (.slice (some ⟨ga2, 0, none⟩) (N + 1) C2) = W at hm ⊢
    clear hgr2 hown2 hge2 hown3 hgr3 hor3 hcC1 hsz1 H26 hh2 hcC2 hfC2 c1 c2 HD HL2
    have HM : Hid (Mid base bC ga2 C2 i K g2 c2' xs ga w W) := hm
    have c1 := cell_of_one hm.head
    rw [← HN.out] at c1
    obtain ⟨HE, HL1⟩ := mid_cells HM.out HK.out.2.1 HK.out.2.2
    clear hm
    go_wp2
    go_region_held3 (fun w' => w'.cell? ⟨bC, 0, none⟩ = some (.slice (some ⟨ga2, 0, none⟩) (N + 1) C2)) (first | go_keep | (show _ = _; rw [hcC1]))
      ((first | (go_at_call 27; refine (clone27_any base g 0 128 cap (iv (xs.take 128)) W.drew HL1.out (by omega) HE.out (iv_one _) HM.out.size (by omega)).mono ?_; rintro e w4 ⟨g1, c1', rfl, hown4, hgr4, hge4⟩; have hcC1 : w4.cell? ⟨bC, 0, none⟩ = some (.slice (some ⟨ga2, 0, none⟩) (N + 1) C2) := (by rw [World.cell?_of_block (hgr4.block bC (lt_of_block HM.out.head) (by simp))]; exact c1); obtain ⟨⟨vv, hcg⟩, hfg, hne⟩ := mid_store HM.out (by rw [← HN.out]; exact hi) hgr4)))
    go_wp2
    go_end0
    exact ⟨rfl, ga2, C2, g1, c1', g2, c2', after3 HM.out HK.out.2.1 HK.out.2.2 hgr4 hown4 hge4 hbC⟩
end Go.Proofs.Ybulkbcge
