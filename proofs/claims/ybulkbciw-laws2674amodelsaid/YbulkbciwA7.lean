import Derived.Test.YbulkbciwA6
import Derived.BigQuiet
import Derived.Deep.QuietTactic
namespace Go.Proofs.Ybulkbciw
open Go.RowKit
set_option linter.unusedSimpArgs false
set_option linter.unusedVariables false

theorem LSt.drewN {w : World} {Bl : Nat} {p : Option Addr} {n c : Nat} {us : List Int} (h : LSt w Bl p n c us) (q : Nat) : LSt (w.drewN q) Bl p n c us := h
theorem LSt.get {w : World} {Bl : Nat} {p : Option Addr} {n c : Nat} {us : List Int} (h : LSt w Bl p n c us) (i : Nat) (hi : i < n) : ∃ g, p = some ⟨g, 0, none⟩ ∧ w.cell? ⟨g, i, none⟩ = some (.int .i64 (us.getD i 0)) := by
  have hl := h.2.2
  rcases h.2.1.at with ⟨_, h0, _⟩ | ⟨g, e, _, _, hc, _⟩
  · omega
  · exact ⟨g, e, hc i _ (by rw [List.getElem?_map, List.getElem?_eq_getElem (by omega), List.getD_eq_getElem?_getD, List.getElem?_eq_getElem (by omega)]; rfl)⟩

/-- no two alike -/
theorem nodup_of {l : List Int} (h : ∀ a b, a < b → b < l.length → l.getD a 0 ≠ l.getD b 0) : l.Nodup := by
  rw [List.Nodup, List.pairwise_iff_getElem]
  intro i j hi hj hij
  have := h i j hij hj
  rwa [List.getD_eq_getElem?_getD, List.getD_eq_getElem?_getD, List.getElem?_eq_getElem hi, List.getElem?_eq_getElem hj] at this
theorem not_nodup {l : List Int} {a b : Nat} (hab : a < b) (hb : b < l.length) (e : l.getD a 0 = l.getD b 0) : ¬ l.Nodup := by
  intro h
  have h2 := (List.pairwise_iff_getElem.1 h) a b (by omega) hb hab
  rw [List.getD_eq_getElem?_getD, List.getD_eq_getElem?_getD, List.getElem?_eq_getElem (show a < l.length by omega), List.getElem?_eq_getElem hb] at e
  exact h2 e

set_option maxHeartbeats 1000000 in
set_option maxRecDepth 10000 in
theorem dup27 {m d : Nat} (hm : m ≤ 1000) (w : World) (vs is : Value) (t : T d) (S : Nat → Prop) (hr : Rep S m d w vs is t) (hN : (flat d t).length ≤ 1000000000) :
    Calls Yba.prog 27 #[.agg #[.int .u64 (thr d t : Nat), vs, is]] w fun e w' => e = .returned (.bool (!decide (flat d t).Nodup)) ∧ Below w.heap.size w w' := by
  obtain ⟨p1, n1, c1, p2, n2, c2, rfl, rfl⟩ := Rep.slices d _ _ _ hr
  obtain ⟨nt, hnt⟩ : ∃ k, thr d t = k := ⟨_, rfl⟩
  obtain ⟨R, hR⟩ : ∃ R, (!decide (flat d t).Nodup) = R := ⟨_, rfl⟩
  rw [hnt, hR]
  obtain ⟨l, hl⟩ : ∃ l, flat d t = l := ⟨_, rfl⟩
  have HH : Hid (Rep S m d w (.slice p1 n1 c1) (.slice p2 n2 c2) t ∧ thr d t = nt ∧ (!decide l.Nodup) = R ∧ flat d t = l ∧ l.length ≤ 1000000000) := ⟨hr, hnt, by rw [← hl]; exact hR, hl, by rw [← hl]; exact hN⟩
  clear hr hnt hR hl hN
  go_enter Yba.func27, Yba.ntmps27
  go_wp2_with (go_at_call 38; fail)
  obtain ⟨Bl, hBl⟩ : ∃ B, w.heap.size + 1 = B := ⟨_, rfl⟩
  obtain ⟨W2, hW2⟩ : ∃ W, (w.alloc (.cells #[.int .u64 (nt : Nat), .slice p1 n1 c1, .slice p2 n2 c2] 30)).alloc (.cells #[.slice none 0 0] 27) = W := ⟨_, rfl⟩
  have hb2 : Below w.heap.size w W2 := hW2 ▸ ((Below.refl _ w).alloc (Nat.le_refl _) _).alloc (by simp) _
  have hL2 : LSt W2 Bl none 0 0 [] := by
    refine ⟨?_, Own.nil _ _ _ _, rfl⟩
    rw [← hW2, ← hBl]
    have := heap_alloc_new (w.alloc (.cells #[.int .u64 (nt : Nat), .slice p1 n1 c1, .slice p2 n2 c2] 30)) (.cells #[.slice none 0 0] 27)
    simpa using this
  have hcon := coll38 hm d W2 _ _ t Bl none 0 0 [] hL2 ((HH.out.1.mono (fun k hk _ => (by omega : k < Bl)) (Nat.le_refl _)).below hb2) (by rw [HH.out.2.2.2.1]; have := HH.out.2.2.2.2; omega)
  rw [HH.out.2.1, HH.out.2.2.2.1] at hcon
  rw [hBl, hW2]
  refine hcon.mono ?_
  clear hcon hL2 hW2
  rintro e w3 ⟨rfl, p, c, hL3, hF3, _⟩
  simp only [Nat.zero_add, List.nil_append] at hL3
  obtain ⟨N, hNl⟩ : ∃ N, l.length = N := ⟨_, rfl⟩
  rw [hNl] at hL3
  have H3 : Hid (LSt w3 Bl p N c l ∧ Below w.heap.size w w3 ∧ l.length = N) := by
    refine ⟨hL3, hb2.trans (hF3.toBelow hb2.size (fun k hk e => ?_)), hNl⟩
    rcases e with e | e
    · omega
    · cases e
  have hN9 : N ≤ 1000000000 := by have := HH.out.2.2.2.2; omega
  clear hb2 hL3 hF3 hNl hBl
  go_wp2
  go_loopw [4] (fun i wr => ∃ k : Nat, i = .int .i64 k ∧ k ≤ N ∧ LSt wr Bl p N c l ∧ Below w.heap.size w wr ∧ (∀ a b, a < k → a < b → b < N → l.getD a 0 ≠ l.getD b 0)) (fun i _ => N - (intOf i).toNat)
  case atStart => exact ⟨0, rfl, Nat.zero_le _, H3.out.1, H3.out.2.1, fun a b ha => by omega⟩
  case round =>
    obtain ⟨k, rfl, hk, hL, hB, hne⟩ := hrel
    have HR : Hid (LSt wr Bl p N c l ∧ Below w.heap.size w wr ∧ (∀ a b, a < k → a < b → b < N → l.getD a 0 ≠ l.getD b 0)) := ⟨hL, hB, hne⟩
    have x0 := hL.c0
    clear hL hB hne
    by_cases hlt : k < N
    · have hw1 : wrap64 ((k : Int) + 1) = (k : Int) + 1 := by unfold wrap64; omega
      go_wp2
      obtain ⟨wo, hwo⟩ : ∃ wo : World, wo = wr := ⟨_, rfl⟩
      rw [← hwo] at HR x0 ⊢
      clear hwo
      go_loopw [5] (fun i wr => ∃ j : Nat, i = .int .i64 j ∧ k + 1 ≤ j ∧ j ≤ N ∧ LSt wr Bl p N c l ∧ Below w.heap.size w wr ∧ (∀ b, k < b → b < j → l.getD k 0 ≠ l.getD b 0)) (fun i _ => N - (intOf i).toNat)
      case atStart => exact ⟨k + 1, by go_num, Nat.le_refl _, by omega, HR.out.1, HR.out.2.1, fun b h1 h2 => by omega⟩
      case round =>
        obtain ⟨j, rfl, hj1, hj2, hL, hB, hne⟩ := hrel
        have HS : Hid (LSt wr Bl p N c l ∧ Below w.heap.size w wr ∧ (∀ b, k < b → b < j → l.getD k 0 ≠ l.getD b 0)) := ⟨hL, hB, hne⟩
        have z0 := hL.c0
        by_cases hltj : j < N
        · obtain ⟨g, e, y0⟩ := hL.get k hlt
          obtain ⟨g2, e2, y1⟩ := hL.get j hltj
          rw [e] at e2
          cases e2
          subst e
          clear hL hB hne
          by_cases heq : l.getD k 0 = l.getD j 0
          · have hR : R = true := by
              rw [← HH.out.2.2.1, decide_eq_false (not_nodup (by omega : k < j) (by have := H3.out.2.2; omega) heq)]
              rfl
            subst hR
            rw [heq] at y0
            obtain ⟨v, hv⟩ : ∃ v, l.getD j 0 = v := ⟨_, rfl⟩
            rw [hv] at y0 y1
            clear hv heq
            go_wp2
            go_quiet (fail)
            go_wp2
            go_ret
            exact ⟨rfl, ⟨HS.out.2.1.os, HS.out.2.1.tape, HS.out.2.1.output, HS.out.2.1.size, HS.out.2.1.block⟩⟩
          · have HN : Hid (∀ b, k < b → b < j + 1 → l.getD k 0 ≠ l.getD b 0) := by
              intro b h1 h2
              by_cases hbj : b = j
              · rw [hbj]; exact heq
              · exact HS.out.2.2 b h1 (by omega)
            have hw2 : wrap64 ((j : Int) + 1) = (j : Int) + 1 := by unfold wrap64; omega
            obtain ⟨v, hv⟩ : ∃ v, l.getD k 0 = v := ⟨_, rfl⟩
            obtain ⟨v2, hv2⟩ : ∃ v, l.getD j 0 = v := ⟨_, rfl⟩
            rw [hv] at y0 heq
            rw [hv2] at y1 heq
            clear hv hv2
            have hb : (v == v2) = false := by rw [beq_eq_false_iff_ne]; exact heq
            go_wp2
            go_quiet (fail)
            go_wp2
            go_roundw
            case rel => exact ⟨j + 1, by go_num, by omega, by omega, HS.out.1, ⟨HS.out.2.1.os, HS.out.2.1.tape, HS.out.2.1.output, HS.out.2.1.size, HS.out.2.1.block⟩, HN.out⟩
            case measure => simp [intOf]; omega
        · obtain rfl : j = N := by omega
          clear hL hB hne
          have HN : Hid (∀ a b, a < k + 1 → a < b → b < j → l.getD a 0 ≠ l.getD b 0) := by
            intro a b h1 h2 h3
            by_cases hak : a = k
            · rw [hak] at h2 ⊢; exact HS.out.2.2 b h2 h3
            · exact HR.out.2.2 a b (by omega) h2 h3
          go_wp2
          go_roundw
          case rel => exact ⟨k + 1, by go_num, by omega, HS.out.1, HS.out.2.1, HN.out⟩
          case measure => simp [intOf]; omega
    · obtain rfl : k = N := by omega
      have hR : R = false := by
        rw [← HH.out.2.2.1, decide_eq_true (nodup_of (fun a b hab hb => HR.out.2.2 a b (by have := H3.out.2.2; omega) hab (by have := H3.out.2.2; omega)))]
        rfl
      subst hR
      go_wp2
      go_ret
      exact ⟨rfl, HR.out.2.1⟩
end Go.Proofs.Ybulkbciw
