import Derived.Test.YbulkbciwA5
import Derived.Test.YbulkbciwK6
namespace Go.Proofs.Ybulkbciw
open Go.RowKit
set_option linter.unusedSimpArgs false
set_option linter.unusedVariables false

/-- append of one int, whatever room there is; long rows too -/
theorem app_int (w : World) (base : Nat) (p : Option Addr) (n c : Nat) (us : List Int) (h : Own w base 3 1 p n c (us.map (Value.int .i64))) (hb : base ≤ w.heap.size) (hn : n ≤ 1000000000) (x : Int) :
    ∃ g' c' w', (Builtin.append_ #[27, 27] 27 #[.slice p n c, .slice (some ⟨w.heap.size, 0, none⟩) 1 1]).run Yba.prog (w.alloc (.cells #[.int .i64 x] 3)) = .ok (.slice (some ⟨g', 0, none⟩) (n + 1) c') w' ∧ Own w' base 3 1 (some ⟨g', 0, none⟩) (n + 1) c' ((us ++ [x]).map (Value.int .i64)) ∧
      Fr (fun k => p = some ⟨k, 0, none⟩) w w' ∧ (p = some ⟨g', 0, none⟩ ∨ g' = w.heap.size + 1) ∧ w.heap.size < w'.heap.size := by
  obtain ⟨i0, hi0, hz⟩ := Option.map_eq_some_iff.1 info3
  simp only [Prod.mk.injEq] at hz
  have hown : (w.alloc (.cells #[.int .i64 x] 3)).ownsRow base 3 1 (.slice p n c) n (us.map (Value.int .i64)) := World.ownsRow.alloc h _
  have hc : ∀ j u, [Value.int .i64 x][j]? = some u → (w.alloc (.cells #[.int .i64 x] 3)).cell? ((⟨w.heap.size, 0, none⟩ : Addr).add j) = some u := by
    intro j u hj
    rw [add_none]
    unfold World.cell?
    simp only [heap_alloc_new]
    have hj0 : j = 0 := by have := (List.getElem?_eq_some_iff.1 hj).1; simpa using this
    subst hj0
    simpa using hj
  have hm1 : n + 1 ≤ maxLen := by unfold maxLen; omega
  obtain ⟨v', w', hr, h2, h3, h4⟩ := run_append_own (P := Yba.prog) (w.alloc (.cells #[.int .i64 x] 3)) base 27 27 3 i0 (.int .i64 0) 1 8 Yba.underlying27 hi0 hz.1 hz.2.1 hz.2.2 rfl (by decide) (.slice p n c) n _ hown ⟨w.heap.size, 0, none⟩ 1 1 [.int .i64 x] rfl hc (by intro u hu; simp at hu; subst hu; rfl) hm1 (by omega) (by simp; omega)
  obtain ⟨g', c', rfl, hg'⟩ := append_block (P := Yba.prog) (w.alloc (.cells #[.int .i64 x] 3)) base 27 27 3 i0 (.int .i64 0) 1 8 Yba.underlying27 hi0 hz.1 hz.2.1 hz.2.2 rfl (by decide) (.slice p n c) n _ hown ⟨w.heap.size, 0, none⟩ 1 1 [.int .i64 x] rfl hc (by intro u hu; simp at hu; subst hu; rfl) hm1 (by omega) (by decide) v' w' hr
  have hob : ∀ k, (Value.slice p n c).ownBlock = some k → p = some ⟨k, 0, none⟩ := by
    intro k hk
    rcases h.2 with ⟨e2, _⟩ | ⟨g, cap, cur, e2, _⟩
    · cases e2; simp [Value.ownBlock] at hk
    · cases e2; simp [Value.ownBlock] at hk; rw [hk]
  refine ⟨g', c', w', hr, by rw [List.map_append]; exact h2, ?_, ?_, ?_⟩
  · exact ((Fr.refl (fun k => p = some ⟨k, 0, none⟩) w).alloc _).trans (Fr.ofGrown h3) (fun k _ e => hob k e.symm)
  · rcases hg' with hg' | hg'
    · exact .inl (hob _ hg')
    · exact .inr (by simpa using hg')
  · have := h3.size
    simp at this
    omega

/-- a boxed list of ints -/
def LSt (w : World) (Bl : Nat) (p : Option Addr) (n c : Nat) (us : List Int) : Prop := w.heap[Bl]? = some (.cells #[.slice p n c] 27 (0, 0)) ∧ Own w (Bl + 1) 3 1 p n c (us.map (Value.int .i64)) ∧ us.length = n
section
variable {w : World} {Bl : Nat} {p : Option Addr} {n c : Nat} {us : List Int}
theorem LSt.c0 (h : LSt w Bl p n c us) : w.cell? ⟨Bl, 0, none⟩ = some (.slice p n c) := by simp [World.cell?, h.1]
theorem LSt.f0 (h : LSt w Bl p n c us) : w.frozen? ⟨Bl, 0, none⟩ = false := by simp [World.frozen?, h.1]
theorem LSt.lt (h : LSt w Bl p n c us) : Bl < w.heap.size := lt_of_block h.1
theorem LSt.blk (h : LSt w Bl p n c us) {j : Nat} (e : p = some ⟨j, 0, none⟩) : Bl + 1 ≤ j ∧ j < w.heap.size := by
  rcases h.2.1.at with ⟨e2, _⟩ | ⟨g, e2, hb, hlt, _⟩
  · rw [e2] at e; cases e
  · rw [e2] at e; cases e; exact ⟨hb, hlt⟩
theorem LSt.below {w' : World} (h : LSt w Bl p n c us) (hb : Below w.heap.size w w') : LSt w' Bl p n c us :=
  ⟨by rw [hb.block Bl h.lt]; exact h.1, h.2.1.fr (Below.toFr hb) (fun _ _ _ _ e => e), h.2.2⟩
theorem LSt.app (h : LSt w Bl p n c us) (hn : n ≤ 1000000000) (x : Int) :
    ∃ g' c' w2, (Builtin.append_ #[27, 27] 27 #[.slice p n c, .slice (some ⟨w.heap.size, 0, none⟩) 1 1]).run Yba.prog (w.alloc (.cells #[.int .i64 x] 3)) = .ok (.slice (some ⟨g', 0, none⟩) (n + 1) c') w2 ∧
      w2.cell? ⟨Bl, 0, none⟩ = some (.slice p n c) ∧ w2.frozen? ⟨Bl, 0, none⟩ = false ∧ LSt (w2.setCell ⟨Bl, 0, none⟩ (.slice (some ⟨g', 0, none⟩) (n + 1) c')) Bl (some ⟨g', 0, none⟩) (n + 1) c' (us ++ [x]) ∧
      Fr (fun j => j = Bl ∨ p = some ⟨j, 0, none⟩) w (w2.setCell ⟨Bl, 0, none⟩ (.slice (some ⟨g', 0, none⟩) (n + 1) c')) ∧ (p = some ⟨g', 0, none⟩ ∨ g' = w.heap.size + 1) := by
  have hlt := h.lt
  obtain ⟨g', c', w2, r, o2, f2, hg, _⟩ := app_int w (Bl + 1) p n c us h.2.1 (by omega) hn x
  have hpB : ¬ (p = some ⟨Bl, 0, none⟩) := fun e => by have := (h.blk e).1; omega
  have hb2 : w2.heap[Bl]? = some (.cells #[.slice p n c] 27 (0, 0)) := by rw [f2.block Bl hlt hpB]; exact h.1
  have fs : Fr (fun j => j = Bl) w2 (w2.setCell ⟨Bl, 0, none⟩ (.slice (some ⟨g', 0, none⟩) (n + 1) c')) := (Fr.refl (fun j => j = Bl) w2).setCell rfl _
  have hgB : g' ≠ Bl := by rcases hg with hg | hg; · have := (h.blk hg).1; omega
                           · omega
  refine ⟨g', c', w2, r, by simp [World.cell?, hb2], by simp [World.frozen?, hb2], ⟨?_, o2.fr fs (fun j o s e hh => by cases e; exact hgB hh), by simp [h.2.2]⟩, (f2.mono (T := fun j => j = Bl ∨ p = some ⟨j, 0, none⟩) (fun j _ e => .inr e)).trans fs (fun j _ e => .inl e), hg⟩
  rw [setCell_eq_setRow w2 Bl 0 _ 27 (0, 0) _ hb2, setRow_heap w2 Bl _ _ 27 _ hb2]
  rfl
end

def Coll38 (m d : Nat) : Prop := ∀ (w : World) (vs is : Value) (t : T d) (Bl : Nat) (p : Option Addr) (n c : Nat) (us : List Int), LSt w Bl p n c us → Rep (fun k => k < Bl) m d w vs is t → n + (flat d t).length ≤ 1000000000 →
  Calls Yba.prog 38 #[.agg #[.int .u64 (thr d t : Nat), vs, is], .pointer (some ⟨Bl, 0, none⟩)] w fun e w' => e = .returned (.tuple #[]) ∧ ∃ p' c', LSt w' Bl p' (n + (flat d t).length) c' (us ++ flat d t) ∧ Fr (fun j => j = Bl ∨ p = some ⟨j, 0, none⟩) w w' ∧ (p' = p ∨ ∃ g, p' = some ⟨g, 0, none⟩ ∧ w.heap.size ≤ g)

theorem le_flat_take {d : Nat} (x : List (T d)) (k : Nat) : ((x.take k).flatMap (flat d)).length ≤ (x.flatMap (flat d)).length := by
  have h : x.flatMap (flat d) = (x.take k).flatMap (flat d) ++ (x.drop k).flatMap (flat d) := by rw [← List.flatMap_append, List.take_append_drop]
  rw [h, List.length_append]
  omega

set_option maxHeartbeats 1000000 in
set_option maxRecDepth 10000 in
theorem Coll38.succ {m d : Nat} (hm : m ≤ 1000) (ih : Coll38 m d) : Coll38 m (d + 1) := by
  rintro w vs is ⟨a, u, x⟩ Bl p n c us hL ⟨pu, cu, px, cx, rfl, rfl, l1, l2, hu, hx⟩ hN
  simp only at l1 l2 hu hx hN ⊢
  obtain ⟨nu, hnu⟩ : ∃ k, u.length = k := ⟨_, rfl⟩
  obtain ⟨nx, hnx⟩ : ∃ k, x.length = k := ⟨_, rfl⟩
  rw [hnu] at l1 ⊢
  rw [hnx] at l2 ⊢
  show Calls Yba.prog 38 #[.agg #[.int .u64 (a : Nat), .slice pu nu cu, .slice px nx cx], .pointer (some ⟨Bl, 0, none⟩)] w _
  obtain ⟨R, hR⟩ : ∃ R : Ending → World → Prop, (fun e w' => e = .returned (.tuple #[]) ∧ ∃ p' c', LSt w' Bl p' (n + (flat (d + 1) (a, u, x)).length) c' (us ++ flat (d + 1) (a, u, x)) ∧ Fr (fun j => j = Bl ∨ p = some ⟨j, 0, none⟩) w w' ∧ (p' = p ∨ ∃ g, p' = some ⟨g, 0, none⟩ ∧ w.heap.size ≤ g)) = R := ⟨_, rfl⟩
  have HH : Hid (LSt w Bl p n c us ∧ IntRow (fun k => k < Bl) w pu u ∧ SetRow (fun k => k < Bl) m d w px x ∧ u.length = nu ∧ x.length = nx ∧ n + (u ++ x.flatMap (flat d)).length ≤ 1000000000 ∧ Coll38 m d) := ⟨hL, hu, hx, hnu, hnx, hN, ih⟩
  have HRR : Hid (∀ w', (∃ p' c', LSt w' Bl p' (n + (u ++ x.flatMap (flat d)).length) c' (us ++ (u ++ x.flatMap (flat d))) ∧ Fr (fun j => j = Bl ∨ p = some ⟨j, 0, none⟩) w w' ∧ (p' = p ∨ ∃ g, p' = some ⟨g, 0, none⟩ ∧ w.heap.size ≤ g)) → R (.returned (.tuple #[])) w') := fun w' h => by rw [← hR]; exact ⟨rfl, h⟩
  rw [hR]
  clear hL hu hx hnu hnx hN ih hR
  go_enter Yba.func38, Yba.ntmps38
  go_wp2
  obtain ⟨Q, hQ⟩ : ∃ Q, w.heap.size = Q := ⟨_, rfl⟩
  obtain ⟨W1, hW1⟩ : ∃ W', w.alloc (.cells #[.int .u64 (a : Nat), .slice pu nu cu, .slice px nx cx] 30) = W' := ⟨_, rfl⟩
  have H1 : Hid (Below w.heap.size w W1 ∧ LSt W1 Bl p n c us ∧ W1.cell? ⟨Q, 2, none⟩ = some (.slice px nx cx) ∧ w.heap.size = Q ∧ Bl < Q) := by
    have hb : Below w.heap.size w W1 := hW1 ▸ (Below.refl _ w).alloc (Nat.le_refl _) _
    exact ⟨hb, HH.out.1.below hb, by rw [← hW1, ← hQ]; simp, hQ, by have := HH.out.1.lt; omega⟩
  rw [hQ, hW1]
  clear hQ hW1
  go_loopw [11] (fun i wr => ∃ (k : Nat) (p1 : Option Addr) (c1 : Nat), i = .int .i64 k ∧ k ≤ nu ∧ LSt wr Bl p1 (n + k) c1 (us ++ u.take k) ∧ Fr (fun j => j = Bl ∨ p = some ⟨j, 0, none⟩) w wr ∧ (p1 = p ∨ ∃ g, p1 = some ⟨g, 0, none⟩ ∧ Q < g) ∧ wr.cell? ⟨Q, 2, none⟩ = some (.slice px nx cx)) (fun i _ => nu - (intOf i).toNat)
  case atStart => exact ⟨0, p, c, rfl, Nat.zero_le _, by simpa using H1.out.2.1, (Below.toFr H1.out.1).mono (fun _ _ e => e.elim), .inl rfl, H1.out.2.2.1⟩
  case round =>
    obtain ⟨k, p1, c1, rfl, hk, hL, hF, hp1, hq⟩ := hrel
    have HR : Hid (LSt wr Bl p1 (n + k) c1 (us ++ u.take k) ∧ Fr (fun j => j = Bl ∨ p = some ⟨j, 0, none⟩) w wr ∧ (p1 = p ∨ ∃ g, p1 = some ⟨g, 0, none⟩ ∧ Q < g) ∧ wr.cell? ⟨Q, 2, none⟩ = some (.slice px nx cx)) := ⟨hL, hF, hp1, hq⟩
    have hbw : Below Bl w wr := by
      refine hF.toBelow (by have := HH.out.1.lt; omega) (fun j hj e => ?_)
      rcases e with e | e
      · omega
      · have := (HH.out.1.blk e).1; omega
    clear hL hF hp1
    by_cases hlt : k < nu
    · clear hq
      have hlu : k < u.length := by have := HH.out.2.2.2.1; omega
      rcases HH.out.2.1 with h1 | ⟨b, e, hbB, hc⟩
      · rw [h1] at hlu; simp at hlu
      · subst e
        have hcw : wr.cell? ⟨b, k, none⟩ = some (.int .i64 u[k]) := by rw [World.cell?_of_block (w := w) (hbw.block b hbB)]; exact hc k hlu
        clear hc hbw
        obtain ⟨g', c', w2, r, y0, y1, L2, F2, hg⟩ := HR.out.1.app (by have := HH.out.2.2.2.2.2.1; simp at this; omega) u[k]
        have x0 := HR.out.1.c0
        have HT : Hid (us ++ u.take (k + 1) = us ++ u.take k ++ [u[k]]) := by
          unfold Hid
          rw [List.take_succ_eq_append_getElem hlu, List.append_assoc]
        have HN : Hid (LSt (w2.setCell ⟨Bl, 0, none⟩ (.slice (some ⟨g', 0, none⟩) (n + k + 1) c')) Bl (some ⟨g', 0, none⟩) (n + (k + 1)) c' (us ++ u.take (k + 1)) ∧ Fr (fun j => j = Bl ∨ p = some ⟨j, 0, none⟩) w (w2.setCell ⟨Bl, 0, none⟩ (.slice (some ⟨g', 0, none⟩) (n + k + 1) c')) ∧ (some ⟨g', 0, none⟩ = p ∨ ∃ g, (some ⟨g', 0, none⟩ : Option Addr) = some ⟨g, 0, none⟩ ∧ Q < g) ∧ (w2.setCell ⟨Bl, 0, none⟩ (.slice (some ⟨g', 0, none⟩) (n + k + 1) c')).cell? ⟨Q, 2, none⟩ = some (.slice px nx cx)) := by
          have hQw := H1.out.2.2.2
          have hwr := HR.out.2.1.size
          refine ⟨by rw [HT.out]; exact L2, HR.out.2.1.trans F2 (fun j hj e => ?_), ?_, ?_⟩
          · rcases e with e | e
            · exact .inl e
            · rcases HR.out.2.2.1 with h | ⟨g, h, hg2⟩
              · rw [h] at e; exact .inr e
              · rw [h] at e; cases e; omega
          · rcases hg with h | h
            · rcases HR.out.2.2.1 with h3 | ⟨g, h3, hg2⟩
              · exact .inl (h.symm.trans h3)
              · rw [h3] at h; cases h; exact .inr ⟨_, rfl, hg2⟩
            · exact .inr ⟨g', rfl, by omega⟩
          · rw [F2.cell (p := ⟨Q, 2, none⟩) (cell_lt HR.out.2.2.2) (fun e => ?_)]
            · exact HR.out.2.2.2
            · rcases e with e | e
              · simp only at e; omega
              · rcases HR.out.2.2.1 with h | ⟨g, h, hg2⟩
                · rw [h] at e; have := (HH.out.1.blk e).2; simp only at this; omega
                · rw [h] at e; cases e; exact absurd hg2 (Nat.lt_irrefl _)
        have HA : Hid _ := r
        clear r L2 F2 hg
        generalize u[k] = v at *
        go_wp2_with (at_builtin; refine Lib.wpList_append_run _ rfl _ _ 27 27 rfl _ _ rfl rfl _ _ HA.out ?_)
        go_roundw
        case rel => exact ⟨k + 1, _, c', by go_num, by omega, HN.out.1, HN.out.2.1, HN.out.2.2.1, HN.out.2.2.2⟩
        case measure => simp [intOf]; omega
    · obtain rfl : k = nu := by omega
      clear hbw
      have HU : Hid (LSt wr Bl p1 (n + k) c1 (us ++ u)) := by
        unfold Hid
        have := HR.out.1
        rwa [List.take_of_length_le (by have := HH.out.2.2.2.1; omega)] at this
      obtain ⟨wo, hwo⟩ : ∃ wo : World, wo = wr := ⟨_, rfl⟩
      rw [← hwo] at HR HU hq ⊢
      clear hwo
      go_wp2
      go_loopw [27] (fun i wr => ∃ (k2 : Nat) (p1 : Option Addr) (c1 : Nat), i = .int .i64 k2 ∧ k2 ≤ nx ∧ LSt wr Bl p1 (n + (u ++ (x.take k2).flatMap (flat d)).length) c1 (us ++ (u ++ (x.take k2).flatMap (flat d))) ∧ Fr (fun j => j = Bl ∨ p = some ⟨j, 0, none⟩) w wr ∧ (p1 = p ∨ ∃ g, p1 = some ⟨g, 0, none⟩ ∧ w.heap.size ≤ g)) (fun i _ => nx - (intOf i).toNat)
      case atStart => exact ⟨0, p1, c1, rfl, Nat.zero_le _, by have h := HU.out; have h2 := HH.out.2.2.2.1; rw [← h2] at h; simpa using h, HR.out.2.1, HR.out.2.2.1.imp id (fun ⟨g, e, hg⟩ => ⟨g, e, by have := H1.out.2.2.2.1; omega⟩)⟩
      case round =>
        obtain ⟨k2, p2, c2, rfl, hk2, hL, hF, hp2⟩ := hrel
        have HS : Hid (LSt wr Bl p2 (n + (u ++ (x.take k2).flatMap (flat d)).length) c2 (us ++ (u ++ (x.take k2).flatMap (flat d))) ∧ Fr (fun j => j = Bl ∨ p = some ⟨j, 0, none⟩) w wr ∧ (p2 = p ∨ ∃ g, p2 = some ⟨g, 0, none⟩ ∧ w.heap.size ≤ g)) := ⟨hL, hF, hp2⟩
        have hbw : Below Bl w wr := by
          refine hF.toBelow (by have := HH.out.1.lt; omega) (fun j hj e => ?_)
          rcases e with e | e
          · omega
          · have := (HH.out.1.blk e).1; omega
        clear hL hF hp2
        by_cases hlt2 : k2 < nx
        · have hlx : k2 < x.length := by have := HH.out.2.2.2.2.1; omega
          rcases HH.out.2.2.1 with h1 | ⟨b, e, hbB, hc⟩
          · rw [h1] at hlx; simp at hlx
          · subst e
            have hcell : ∀ ad v, ad.block < Bl → w.cell? ad = some v → wr.cell? ad = some v := fun ad v hb e => by rw [World.cell?_of_block (w := w) (hbw.block _ hb)]; exact e
            obtain ⟨vs, is, a1, a2, a3, hr1⟩ := hc k2 hlx
            clear hc
            obtain ⟨r1, r2, r3, r4, r5, r6, rfl, rfl⟩ := Rep.slices d _ _ _ hr1
            replace a1 := hcell _ _ hbB a1
            replace a2 := hcell _ _ hbB a2
            replace a3 := hcell _ _ hbB a3
            have HRp : Hid (Rep (fun k => k < Bl) m d wr (.slice r1 r2 r3) (.slice r4 r5 r6) x[k2]) := Rep.keep (fun ad v hs e => hcell ad v hs e) (fun _ _ e => e) (Nat.le_refl _) d _ _ _ hr1
            clear hr1 hcell hbw
            have HT : Hid ((x.take (k2 + 1)).flatMap (flat d) = (x.take k2).flatMap (flat d) ++ flat d x[k2]) := by
              unfold Hid
              rw [List.take_succ_eq_append_getElem hlx, List.flatMap_append]
              simp
            have HB : Hid (n + (u ++ (x.take k2).flatMap (flat d)).length + (flat d x[k2]).length ≤ 1000000000) := by
              have h1 := HH.out.2.2.2.2.2.1
              have h2 := le_flat_take x (k2 + 1)
              rw [HT.out] at h2
              simp only [List.length_append] at h1 h2
              unfold Hid
              simp only [List.length_append]
              omega
            generalize x[k2] = t at *
            obtain ⟨n1, hn1⟩ : ∃ n, thr d t = n := ⟨_, rfl⟩
            have hal : Below wr.heap.size wr (wr.alloc (.cells #[.int .u64 (n1 : Nat), .slice r1 r2 r3, .slice r4 r5 r6] 30)) := (Below.refl _ wr).alloc (Nat.le_refl _) _
            have hcon := HH.out.2.2.2.2.2.2 _ _ _ t Bl p2 _ c2 _ (HS.out.1.below hal) (HRp.out.below hal) HB.out
            rw [hn1] at hcon a1
            clear hn1 hal
            go_wp2_with (go_at_call 38; fail)
            refine hcon.mono ?_
            clear hcon a1 a2 a3
            rintro e w3 ⟨rfl, p3, c3, L3, F3, hp3⟩
            have HN : Hid (LSt w3 Bl p3 (n + (u ++ (x.take (k2 + 1)).flatMap (flat d)).length) c3 (us ++ (u ++ (x.take (k2 + 1)).flatMap (flat d))) ∧ Fr (fun j => j = Bl ∨ p = some ⟨j, 0, none⟩) w w3 ∧ (p3 = p ∨ ∃ g, p3 = some ⟨g, 0, none⟩ ∧ w.heap.size ≤ g)) := by
              have hwr := HS.out.2.1.size
              refine ⟨?_, (HS.out.2.1.alloc _).trans F3 (fun j hj e => ?_), ?_⟩
              · rw [HT.out]
                simp only [List.length_append, List.append_assoc] at L3 ⊢
                simpa [Nat.add_assoc] using L3
              · rcases e with e | e
                · exact .inl e
                · rcases HS.out.2.2 with h | ⟨g, h, hg2⟩
                  · rw [h] at e; exact .inr e
                  · rw [h] at e; cases e; omega
              · rcases hp3 with h | ⟨g, h, hg⟩
                · rw [h]; exact HS.out.2.2
                · exact .inr ⟨g, h, by simp at hg; omega⟩
            clear L3 F3 hp3
            go_wp2
            go_roundw
            case rel => exact ⟨k2 + 1, p3, c3, by go_num, by omega, HN.out.1, HN.out.2.1, HN.out.2.2⟩
            case measure => simp [intOf]; omega
        · obtain rfl : k2 = nx := by omega
          clear hbw
          have HE : Hid (∃ p' c', LSt wr Bl p' (n + (u ++ x.flatMap (flat d)).length) c' (us ++ (u ++ x.flatMap (flat d))) ∧ Fr (fun j => j = Bl ∨ p = some ⟨j, 0, none⟩) w wr ∧ (p' = p ∨ ∃ g, p' = some ⟨g, 0, none⟩ ∧ w.heap.size ≤ g)) := by
            have h := HS.out.1
            rw [List.take_of_length_le (by have := HH.out.2.2.2.2.1; omega)] at h
            exact ⟨p2, c2, h, HS.out.2.1, HS.out.2.2⟩
          go_wp2
          go_end0
          exact HRR.out _ HE.out

theorem coll38 {m : Nat} (hm : m ≤ 1000) : (d : Nat) → Coll38 m d
  | 0 => fun _ _ _ t => nomatch t
  | d + 1 => Coll38.succ hm (coll38 hm d)
end Go.Proofs.Ybulkbciw
