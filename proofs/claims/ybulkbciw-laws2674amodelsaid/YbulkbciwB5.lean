import Derived.Test.YbulkbciwB4
import Derived.Deep.RegionHeldLaw
import Derived.Deep.RegionLaw
namespace Go.Proofs.Ybulkbciw
open Go.RowKit
set_option linter.unusedSimpArgs false
set_option linter.unusedVariables false

theorem three_boxes (w : World) (x : Int) (q : Option Addr) (n c : Nat) (q2 : Option Addr) (n2 c2 B : Nat) (hB : w.heap.size = B) (W1 : World) (hW1 : ((w.alloc (.cells #[.int .u8 x, .slice q n c, .slice q2 n2 c2] 25)).alloc (.cells #[.int .u64 0, .slice none 0 0, .slice none 0 0] 30)).alloc (.cells #[.int .u64 0, .slice none 0 0, .slice none 0 0] 30) = W1) :
    Fr (fun _ => False) w W1 ∧ W1.heap.size = B + 3 ∧ SBox W1 B (.int .u8 x) (.slice q n c) (.slice q2 n2 c2) ∧ BoxAt W1 (B + 1) (.int .u64 0) (.slice none 0 0) (.slice none 0 0) ∧ BoxAt W1 (B + 2) (.int .u64 0) (.slice none 0 0) (.slice none 0 0) := by
  subst hW1
  subst hB
  refine ⟨(((Fr.refl _ w).alloc _).alloc _).alloc _, by simp, (SBox.new w _ _ _).fr (((Fr.refl (fun _ => False) _).alloc _).alloc _) (fun e => e), ?_, ?_⟩
  · have h := BoxAt.new (w.alloc (.cells #[.int .u8 x, .slice q n c, .slice q2 n2 c2] 25)) (.int .u64 0) (.slice none 0 0) (.slice none 0 0)
    have h2 := h.fr ((Fr.refl (fun _ => False) _).alloc (.cells #[.int .u64 0, .slice none 0 0, .slice none 0 0] 30)) (fun e => e)
    simpa using h2
  · have h := BoxAt.new ((w.alloc (.cells #[.int .u8 x, .slice q n c, .slice q2 n2 c2] 25)).alloc (.cells #[.int .u64 0, .slice none 0 0, .slice none 0 0] 30)) (.int .u64 0) (.slice none 0 0) (.slice none 0 0)
    simpa using h

set_option maxHeartbeats 8000000 in
set_option maxRecDepth 10000 in
theorem Bld8.step {W0 : World} {B0 nn d : Nat} (hB0 : W0.heap.size ≤ B0) (hn1 : 1 ≤ nn) (hn8 : nn ≤ 8) (hd3 : d ≤ 3) (ih : ∀ d', d = d' + 1 → Bld8 W0 B0 nn d') : Bld8 W0 B0 nn d := by
  intro w x q n c q2 n2 c2 bud hbw hu hin hx hx2 hn hn2 hbud hb5
  obtain ⟨B, hB⟩ : ∃ B, w.heap.size = B := ⟨_, rfl⟩
  have hB0B : B0 < B := by rw [← hB]; exact lt_of_block hbud
  have HI : Hid (Below W0.heap.size W0 w ∧ UB W0 q n ∧ Ins d W0 q2 n2 ∧ (∀ d', d = d' + 1 → Bld8 W0 B0 nn d') ∧ Bud w B0 bud ∧ W0.heap.size ≤ B0) := ⟨hbw, hu, hin, ih, hbud, hB0⟩
  obtain ⟨dp, hdp⟩ : ∃ dp, 3 - d = dp := ⟨_, rfl⟩
  rw [hdp]
  obtain ⟨R3, hR3⟩ : ∃ R3 : Ending → World → Prop, (fun e w' => Blt B0 nn d w e w') = R3 := ⟨_, rfl⟩
  have HE : Hid (∀ (a : Nat) p1 n1 c1 p2 n2 c2 (w' : World), Fr (fun j => j = B0 ∨ B ≤ j) w w' → R3 (.returned (.tuple #[.agg #[.int .u64 (a : Nat), .slice p1 n1 c1, .slice p2 n2 c2], .bool false])) w') := by
    intro a p1 n1 c1 p2 n2 c2 w' hf
    rw [← hR3]
    exact ⟨a, p1, n1, c1, p2, n2, c2, false, rfl, hf.mono (fun j hj e => by omega), fun h => by cases h⟩
  have HT : Hid (∀ (t : T (d + 1)) (a : Nat) p1 n1 c1 p2 n2 c2 b (w' : World), thr (d + 1) t = a → Fr (fun j => j = B0 ∨ B ≤ j) w w' → Rep (fun k => B ≤ k) 64 (d + 1) w' (.slice p1 n1 c1) (.slice p2 n2 c2) t → (∀ v ∈ flat (d + 1) t, 0 ≤ v ∧ v < nn) → b ≤ 512 → Bud w' B0 b → R3 (.returned (.tuple #[.agg #[.int .u64 (a : Nat), .slice p1 n1 c1, .slice p2 n2 c2], .bool true])) w') := by
    intro t a p1 n1 c1 p2 n2 c2 b w' ha hf hr hv hb h5
    rw [← hR3]
    exact ⟨a, p1, n1, c1, p2, n2, c2, true, rfl, hf.mono (fun j hj e => by omega), fun _ => ⟨t, ha, by rw [hB]; exact hr, hv, b, hb, h5⟩⟩
  rw [hR3]
  clear hR3 hbw hu hin ih hbud hB0
  obtain ⟨W1, hW1⟩ : ∃ W', ((w.alloc (.cells #[.int .u8 x, .slice q n c, .slice q2 n2 c2] 25)).alloc (.cells #[.int .u64 0, .slice none 0 0, .slice none 0 0] 30)).alloc (.cells #[.int .u64 0, .slice none 0 0, .slice none 0 0] 30) = W' := ⟨_, rfl⟩
  obtain ⟨hf1, hs1, hx4, hx8, hx10⟩ := three_boxes w x q n c q2 n2 c2 B hB W1 hW1
  have HB1 : Hid (Fr (fun j => j = B0 ∨ B ≤ j) w W1 ∧ SBox W1 B (.int .u8 x) (.slice q n c) (.slice q2 n2 c2) ∧ BoxAt W1 (B + 1) (.int .u64 0) (.slice none 0 0) (.slice none 0 0) ∧ BoxAt W1 (B + 2) (.int .u64 0) (.slice none 0 0) (.slice none 0 0) ∧ W1.heap.size = B + 3 ∧ w.heap.size = B ∧ Bud W1 B0 bud) := ⟨hf1.mono (fun _ _ e => e.elim), hx4, hx8, hx10, hs1, hB, HI.out.2.2.2.2.1.fr hf1 (fun e => e)⟩
  have y1 := hx4.c1
  have y2 := hx4.c2
  have z0 := hx10.c0
  have z1 := hx10.c1
  have z2 := hx10.c2
  have e0 := hx8.c0
  have e1 := hx8.c1
  have e2 := hx8.c2
  have e3 := hx8.f 0
  have e4 := hx8.f 1
  have e5 := hx8.f 2
  clear hx4 hx8 hx10 hf1
  have hcase : 64 < n ∨ (n ≤ 64 ∧ 64 < n2) ∨ (n ≤ 64 ∧ n2 ≤ 64) := by omega
  rcases hcase with h1 | ⟨h1, h2⟩ | ⟨h1, h2⟩
  · go_enter Yba.func8, Yba.ntmps8
    go_wp2
    obtain ⟨b1, f1⟩ := out_box HB1.out.2.2.1 (.int .u64 0) (.slice none 0 0) (.slice none 0 0) _ rfl
    refine bodyPost_ret (results_two rfl _ _ (B + 1) 30 #[.int .u64 0, .slice none 0 0, .slice none 0 0] (0, 0) _ rfl b1 Yba.underlying30 rfl (by kernel_rfl)) rfl ?_
    exact HE.out 0 none 0 0 none 0 0 _ (HB1.out.1.trans f1 (fun j hj e => by have := HB1.out.2.2.2.2.2.1; omega))
  · go_enter Yba.func8, Yba.ntmps8
    go_wp2
    obtain ⟨b1, f1⟩ := out_box HB1.out.2.2.1 (.int .u64 0) (.slice none 0 0) (.slice none 0 0) _ rfl
    refine bodyPost_ret (results_two rfl _ _ (B + 1) 30 #[.int .u64 0, .slice none 0 0, .slice none 0 0] (0, 0) _ rfl b1 Yba.underlying30 rfl (by kernel_rfl)) rfl ?_
    exact HE.out 0 none 0 0 none 0 0 _ (HB1.out.1.trans f1 (fun j hj e => by have := HB1.out.2.2.2.2.2.1; omega))
  · go_enter Yba.func8, Yba.ntmps8
    go_wp2
    obtain ⟨C, hC⟩ : ∃ C, B + 1 + 1 = C := ⟨_, rfl⟩
    rw [hC]
    have HC : Hid (BoxAt W1 C (.int .u64 0) (.slice none 0 0) (.slice none 0 0) ∧ B + 2 = C) := ⟨by rw [← hC]; exact HB1.out.2.2.2.1, by omega⟩
    clear hC y1 y2 z0 z1 z2 e0 e1 e2 e3 e4 e5 hs1 hW1 hB hn hn2
    go_loopw [32] (fun i wr => ∃ (k : Nat) (p : Option Addr) (c' : Nat) (u : List Int), i = .int .i64 k ∧ k ≤ n ∧ u.length = k ∧ BoxAt wr C (.int .u64 0) (.slice p k c') (.slice none 0 0) ∧ Own wr (B + 3) 3 1 p k c' (u.map (Value.int .i64)) ∧ (∀ v ∈ u, 0 ≤ v ∧ v < nn) ∧ Fr (fun j => j = C ∨ B + 3 ≤ j) W1 wr) (fun i _ => n - (intOf i).toNat)
    case atStart => exact ⟨0, none, 0, [], rfl, Nat.zero_le _, rfl, HC.out.1, Own.nil _ _ _ _, fun v hv => by simp at hv, Fr.refl _ _⟩
    case round =>
      obtain ⟨k, p, c', u, rfl, hk, hul, hbx, hown, hrg, hfr⟩ := hrel
      have hwr : Fr (fun j => j = B0 ∨ B ≤ j) w wr := HB1.out.1.trans hfr (fun j hj e => by have := HB1.out.2.2.2.2.2.1; have := HC.out.2; omega)
      have hsz : B + 3 ≤ wr.heap.size := by have := hfr.size; have := HB1.out.2.2.2.2.1; omega
      have hbw : Below W0.heap.size W0 wr := HI.out.1.trans (hwr.toBelow HI.out.1.size (fun j hj e => by have := HI.out.2.2.2.2.2; have := HI.out.1.size; have := HB1.out.2.2.2.2.2.1; omega))
      have HR : Hid (u.length = k ∧ BoxAt wr C (.int .u64 0) (.slice p k c') (.slice none 0 0) ∧ Own wr (B + 3) 3 1 p k c' (u.map (Value.int .i64)) ∧ (∀ v ∈ u, 0 ≤ v ∧ v < nn) ∧ Fr (fun j => j = C ∨ B + 3 ≤ j) W1 wr ∧ Fr (fun j => j = B0 ∨ B ≤ j) w wr ∧ B + 3 ≤ wr.heap.size ∧ Below W0.heap.size W0 wr) := ⟨hul, hbx, hown, hrg, hfr, hwr, hsz, hbw⟩
      by_cases hlt : k < n
      · obtain ⟨b, off, xk, e, hc, hxk, hxk2⟩ := (HI.out.2.1.below hbw) k hlt
        subst e
        obtain ⟨v, hv⟩ : ∃ v : Int, xk.tmod (nn : Int) = v := ⟨_, rfl⟩
        have hv2 : 0 ≤ v ∧ v < nn := by
          rw [← hv, Int.tmod_eq_emod_of_nonneg hxk]
          exact ⟨Int.emod_nonneg _ (by omega), Int.emod_lt_of_pos _ (by omega)⟩
        obtain ⟨g', cg, w2, r, b2, b3, o3, f3⟩ := val_app (w := wr.drew) hbx hown (by have := HC.out.2; omega) hsz (by omega) v
        have z1 := hbx.c1
        have x1 := b2.c1
        have x2 := b2.f 1
        have HN : Hid (BoxAt (w2.setCell ⟨C, 1, none⟩ (.slice (some ⟨g', 0, none⟩) (k + 1) cg)) C (.int .u64 0) (.slice (some ⟨g', 0, none⟩) (k + 1) cg) (.slice none 0 0) ∧ Own (w2.setCell ⟨C, 1, none⟩ (.slice (some ⟨g', 0, none⟩) (k + 1) cg)) (B + 3) 3 1 (some ⟨g', 0, none⟩) (k + 1) cg ((u ++ [v]).map (Value.int .i64)) ∧ Fr (fun j => j = C ∨ B + 3 ≤ j) W1 (w2.setCell ⟨C, 1, none⟩ (.slice (some ⟨g', 0, none⟩) (k + 1) cg)) ∧ ∀ v' ∈ u ++ [v], 0 ≤ v' ∧ v' < nn) := by
          refine ⟨b3, o3, hfr.trans (Fr.ofDrew f3) (fun j _ e => e), fun v' h' => ?_⟩
          rcases List.mem_append.1 h' with h' | h'
          · exact hrg v' h'
          · simp at h'; subst h'; exact hv2
        have hw1 : IntKind.i64.wrap xk = xk := by rw [IntKind.wrap_i64]; omega
        have hw2 : IntKind.i64.wrap v = v := by rw [IntKind.wrap_i64]; omega
        have hn0 : ¬ (nn = 0) := by omega
        clear hbx hown hrg hfr hwr hbw b2 b3 o3 f3 hsz
        go_wp2
        have HA : Hid _ := r
        clear r
        have ka := cell_al z1
        go_region_law (first | (refine step_app rfl (some 43) rfl (.tmp 37) (.tmp 42) 27 27 rfl p k c' (.slice (some ⟨wr.heap.size, 0, none⟩) 1 1) (by simp [Act.eval, Act.put]) (by simp [Act.eval, Act.put]) _ _ HA.out ?_))
        all_goals
          go_wp2
          go_roundw
          case rel => exact ⟨k + 1, some ⟨g', 0, none⟩, cg, u ++ [v], by go_num, by omega, by have := HR.out.1; simp; omega, HN.out.1, HN.out.2.1, HN.out.2.2.2, HN.out.2.2.1⟩
          case measure => simp [intOf]; omega
      · obtain rfl : k = n := by omega
        clear hbx hown hrg hfr hwr hbw hsz
        obtain ⟨wo, hwo⟩ : ∃ wo : World, wo = wr := ⟨_, rfl⟩
        rw [← hwo] at HR ⊢
        clear hwo
        have hbd : Bud wo B0 bud := HB1.out.2.2.2.2.2.2.fr HR.out.2.2.2.2.1 (fun e => by have := HC.out.2; omega)
        have hsb : SBox wo B (.int .u8 x) (.slice q k c) (.slice q2 n2 c2) := HB1.out.2.1.fr HR.out.2.2.2.2.1 (fun e => by have := HC.out.2; omega)
        have hrb : BoxAt wo (B + 1) (.int .u64 0) (.slice none 0 0) (.slice none 0 0) := HB1.out.2.2.1.fr HR.out.2.2.2.2.1 (fun e => by have := HC.out.2; omega)
        have t0 := hbd.c
        have t1 := hbd.f
        have y1 := hsb.c1
        obtain ⟨b2, hb2⟩ : ∃ b2 : Nat, bud + k = b2 := ⟨_, rfl⟩
        have hwb : IntKind.i64.wrap ((bud : Int) + (k : Int)) = (b2 : Int) := by rw [IntKind.wrap_i64]; omega
        have HK : Hid (SBox wo B (.int .u8 x) (.slice q k c) (.slice q2 n2 c2) ∧ BoxAt wo (B + 1) (.int .u64 0) (.slice none 0 0) (.slice none 0 0) ∧ Bud wo B0 bud) := ⟨hsb, hrb, hbd⟩
        clear hsb hrb hbd
        go_wp2
        go_region_law (fail)
        all_goals
          obtain ⟨W6, hW6⟩ : ∃ W, (wo.setCell ⟨B0, 0, none⟩ (.int .i64 (b2 : Int))).drew = W := ⟨_, rfl⟩
          rw [hW6]
          have hf6 : Fr (fun j => j = B0) wo W6 := hW6 ▸ ((Fr.refl (fun j => j = B0) wo).setCell (p := ⟨B0, 0, none⟩) rfl _).drew
          obtain ⟨n6, hn6⟩ : ∃ n6, W6.heap.size = n6 := ⟨_, rfl⟩
          have H6 : Hid (Bud W6 B0 b2 ∧ SBox W6 B (.int .u8 x) (.slice q k c) (.slice q2 n2 c2) ∧ BoxAt W6 (B + 1) (.int .u64 0) (.slice none 0 0) (.slice none 0 0) ∧ BoxAt W6 C (.int .u64 0) (.slice p k c') (.slice none 0 0) ∧ IntRow (fun j => B + 3 ≤ j) W6 p u ∧ Fr (fun j => j = B0 ∨ B ≤ j) w W6 ∧ B + 3 ≤ n6 ∧ Below W0.heap.size W0 W6 ∧ u.length = k ∧ (∀ v ∈ u, 0 ≤ v ∧ v < nn) ∧ W6.heap.size = n6 ∧ B + 2 = C ∧ w.heap.size = B) := by
            obtain ⟨r1, r2, r3, r4, r5, r6, r7, r8⟩ := HR.out
            have hc2 := HC.out.2
            have hw := HB1.out.2.2.2.2.2.1
            have hsz := hf6.size
            refine ⟨?_, HK.out.1.fr hf6 (fun e => by omega), HK.out.2.1.fr hf6 (fun e => by omega), r2.fr hf6 (fun e => by omega), (r3.ints.keep (fun ad v hs e => ?_) (fun _ _ e => e)), r6.trans hf6 (fun j _ e => .inl e), by omega, ?_, r1, r4, hn6, hc2, hw⟩
            · rw [← hW6]
              exact (HK.out.2.2.set b2 _ rfl : Bud (wo.setCell _ _) B0 b2)
            · rw [hf6.cell (cell_lt e) (fun e2 => by omega)]; exact e
            · exact r8.trans (hf6.toBelow r8.size (fun j hj e => by have := HI.out.2.2.2.2.2; omega))
          clear hW6 t0 t1 y1 hf6 hn6 hwb HR HK HC HB1
          have t0 := H6.out.1.c
          have y0 := H6.out.2.1.c0
          have y2 := H6.out.2.1.c2
          have z0 := H6.out.2.2.2.1.c0
          have z1 := H6.out.2.2.2.1.c1
          have z2 := H6.out.2.2.2.1.c2
          have e0 := H6.out.2.2.1.c0
          have e1 := H6.out.2.2.1.c1
          have e2 := H6.out.2.2.1.c2
          have e3 := H6.out.2.2.1.f 0
          have e4 := H6.out.2.2.1.f 1
          have e5 := H6.out.2.2.1.f 2
          by_cases h512 : 512 < b2
          · go_wp2
            obtain ⟨b1, f1⟩ := out_box H6.out.2.2.1 (.int .u64 0) (.slice p k c') (.slice none 0 0) _ rfl
            refine bodyPost_ret (results_two rfl _ _ (B + 1) 30 #[.int .u64 0, .slice p k c', .slice none 0 0] (0, 0) _ rfl b1 Yba.underlying30 rfl (by kernel_rfl)) rfl ?_
            exact HE.out 0 p k c' none 0 0 _ (H6.out.2.2.2.2.2.1.trans f1 (fun j _ e => .inr (by omega)))
          · have h511 : b2 ≤ 512 := by omega
            clear h512
            cases d
            case' zero =>
              have hdp3 : 3 ≤ dp := by omega
              clear t0 y0 y2 z0 z1 z2 e0 e1 e2 e3 e4 e5
              obtain ⟨wr, hwr0⟩ : ∃ wr : World, wr = W6 := ⟨_, rfl⟩
              rw [← hwr0]
              obtain ⟨k2, px, cx, L, b, hk64, HX⟩ : ∃ (k2 : Nat) (px : Option Addr) (cx : Nat) (L : List (El 0)) (b : Nat), k2 ≤ 64 ∧ Hid (Con n6 64 0 wr C (.int .u64 0) (.slice p k c') px k2 cx L ∧ Fr (fun j => j = B0 ∨ j = C ∨ n6 ≤ j) W6 wr ∧ Bud wr B0 b ∧ b ≤ 512 ∧ ∀ e ∈ L, ∀ v ∈ flat 0 e.2.2, 0 ≤ v ∧ v < nn) := by
                rw [hwr0]
                exact ⟨0, none, 0, [], b2, by omega, ⟨H6.out.2.2.2.1, Own.nil _ _ _ _, rfl, Elems.nil _ _ _ _, by have := H6.out.2.2.2.2.2.2; omega, by have := H6.out.2.2.2.2.2.2; omega⟩, Fr.refl _ _, H6.out.1, by omega, fun e he => by simp at he⟩
              have t0 : wr.cell? ⟨B0, 0, none⟩ = some (.int .i64 (b2 : Int)) := by rw [hwr0]; exact H6.out.1.c
              clear hwr0
            case' succ d' =>
              have hdp3 : dp ≤ 2 := by omega
              have hdp4 : ((3 - d' : Nat) : Int) = (dp : Int) + 1 := by omega
              go_wp2
              generalize (decide ((dp : Int) < 3)) = bs
              clear t0 y0 y2 z0 z1 z2 e0 e1 e2 e3 e4 e5
              go_loopw [64] (fun i wr => ∃ (k2 : Nat) (px : Option Addr) (cx : Nat) (L : List (El (d' + 1))) (b : Nat), i = .int .i64 k2 ∧ k2 ≤ n2 ∧ Con n6 64 (d' + 1) wr C (.int .u64 0) (.slice p k c') px k2 cx L ∧ Fr (fun j => j = B0 ∨ j = C ∨ n6 ≤ j) W6 wr ∧ Bud wr B0 b ∧ b ≤ 512 ∧ ∀ e ∈ L, ∀ v ∈ flat (d' + 1) e.2.2, 0 ≤ v ∧ v < nn) (fun i _ => n2 - (intOf i).toNat)
              case atStart => exact ⟨0, none, 0, [], b2, rfl, Nat.zero_le _, ⟨H6.out.2.2.2.1, Own.nil _ _ _ _, rfl, Elems.nil _ _ _ _, by have := H6.out.2.2.2.2.2.2; omega, by have := H6.out.2.2.2.2.2.2; omega⟩, Fr.refl _ _, H6.out.1, by omega, fun e he => by simp at he⟩
              case' round =>
                obtain ⟨k2, px, cx, L, b, rfl, hk2, hcon, hfr, hbd, hb51, hrg⟩ := hrel
                have hwr : Fr (fun j => j = B0 ∨ B ≤ j) w wr := H6.out.2.2.2.2.2.1.trans hfr (fun j hj e => by have := H6.out.2.2.2.2.2.2; omega)
                have hbw : Below W0.heap.size W0 wr := H6.out.2.2.2.2.2.2.2.1.trans (hfr.toBelow H6.out.2.2.2.2.2.2.2.1.size (fun j hj e => by have := H6.out.2.2.2.2.2.2; have := HI.out.2.2.2.2.2; have := H6.out.2.2.2.2.2.2.2.1.size; omega))
                have hrb : BoxAt wr (B + 1) (.int .u64 0) (.slice none 0 0) (.slice none 0 0) := H6.out.2.2.1.fr hfr (fun e => by have := H6.out.2.2.2.2.2.2; omega)
                have HX : Hid (Con n6 64 (d' + 1) wr C (.int .u64 0) (.slice p k c') px k2 cx L ∧ Fr (fun j => j = B0 ∨ j = C ∨ n6 ≤ j) W6 wr ∧ Bud wr B0 b ∧ b ≤ 512 ∧ ∀ e ∈ L, ∀ v ∈ flat (d' + 1) e.2.2, 0 ≤ v ∧ v < nn) := ⟨hcon, hfr, hbd, hb51, hrg⟩
                have HY : Hid (Fr (fun j => j = B0 ∨ B ≤ j) w wr ∧ Below W0.heap.size W0 wr ∧ BoxAt wr (B + 1) (.int .u64 0) (.slice none 0 0) (.slice none 0 0)) := ⟨hwr, hbw, hrb⟩
                clear hcon hfr hbd hrg hwr hrb
                by_cases hlt : k2 < n2
                case' pos =>
                  obtain ⟨b', off, x', q', n', c'', q2', n2', c2', e, i0, i1, i2, hn', hn2', hu', hi', hx', hx2'⟩ := HI.out.2.2.1 k2 hlt
                  subst e
                  replace i0 := cell_bl hbw i0
                  replace i1 := cell_bl hbw i1
                  replace i2 := cell_bl hbw i2
                  clear hbw
                  obtain ⟨I, hI⟩ : ∃ I, wr.heap.size = I := ⟨_, rfl⟩
                  obtain ⟨W8, hW8⟩ : ∃ W, wr.alloc (.cells #[.int .u8 x', .slice q' n' c'', .slice q2' n2' c2'] 25) = W := ⟨_, rfl⟩
                  obtain ⟨W9, hW9⟩ : ∃ W, W8.setCell ⟨B0, 0, none⟩ (.int .i64 ((b : Int) + 1)) = W := ⟨_, rfl⟩
                  have hf8 : Fr (fun j => j = B0) wr W8 := hW8 ▸ (Fr.refl _ wr).alloc _
                  have hf9 : Fr (fun j => j = B0) wr W9 := hW9 ▸ hf8.setCell (p := ⟨B0, 0, none⟩) rfl _
                  have hbd8 : Bud W8 B0 b := HX.out.2.2.1.fr (S := fun _ => False) (hW8 ▸ (Fr.refl _ wr).alloc _) (fun e => e)
                  have hbd9 : Bud W9 B0 (b + 1) := by rw [← hW9]; exact hbd8.set (b + 1) _ (by omega)
                  have hsb8 : SBox W8 I (.int .u8 x') (.slice q' n' c'') (.slice q2' n2' c2') := by rw [← hW8, ← hI]; exact SBox.new wr _ _ _
                  have hIB : I ≠ B0 := by have := lt_of_block HX.out.2.2.1; omega
                  have hsb9 : SBox W9 I (.int .u8 x') (.slice q' n' c'') (.slice q2' n2' c2') := hsb8.fr (S := fun j => j = B0) (hW9 ▸ (Fr.refl (fun j => j = B0) W8).setCell (p := ⟨B0, 0, none⟩) rfl _) hIB
                  have j0 := hbd8.c
                  have j1 := hbd8.f
                  have j2 : W9.cell? ⟨B0, 0, none⟩ = some (.int .i64 ((b : Int) + 1)) := by have h := hbd9.c; simpa using h
                  have s0 := hsb9.c0
                  have s1 := hsb9.c1
                  have s2 := hsb9.c2
                  have hcon9 := HX.out.1.fr hf9 (fun j _ e e2 => by have := H6.out.2.2.2.2.2.2; omega)
                  have hrb9 := HY.out.2.2.fr hf9 (fun e => by omega)
                  have H9 : Hid (Con n6 64 (d' + 1) W9 C (.int .u64 0) (.slice p k c') px k2 cx L ∧ BoxAt W9 (B + 1) (.int .u64 0) (.slice none 0 0) (.slice none 0 0) ∧ Fr (fun j => j = B0) wr W9 ∧ Bud W9 B0 (b + 1) ∧ wr.heap.size ≤ W9.heap.size) := ⟨hcon9, hrb9, hf9, hbd9, hf9.size⟩
                  have z0 := hcon9.1.c0
                  have z1 := hcon9.1.c1
                  have z2 := hcon9.1.c2
                  have e0 := hrb9.c0
                  have e1 := hrb9.c1
                  have e2 := hrb9.c2
                  have e3 := hrb9.f 0
                  have e4 := hrb9.f 1
                  have e5 := hrb9.f 2
                  clear hcon9 hrb9 hf9 hf8 hbd9 hbd8 hsb8 hsb9
                  by_cases h513 : 512 < b + 1
                  case' pos =>
                    go_wp2
                    obtain ⟨b1, f1⟩ := out_box H9.out.2.1 (.int .u64 0) (.slice p k c') (.slice px k2 cx) _ rfl
                    refine bodyPost_ret (results_two rfl _ _ (B + 1) 30 #[.int .u64 0, .slice p k c', .slice px k2 cx] (0, 0) _ rfl b1 Yba.underlying30 rfl (by kernel_rfl)) rfl ?_
                    exact HE.out 0 p k c' px k2 cx _ ((HY.out.1.trans H9.out.2.2.1 (fun j _ e => .inl e)).trans f1 (fun j _ e => .inr (by omega)))
                  case' neg =>
                    have h514 : b + 1 ≤ 512 := by omega
                    clear h513
                    have hcall := HI.out.2.2.2.1 d' rfl W9 x' q' n' c'' q2' n2' c2' (b + 1) (HY.out.2.1.trans (H9.out.2.2.1.toBelow HY.out.2.1.size (fun j hj e => by have := HI.out.2.2.2.2.2; omega))) hu' hi' hx' hx2' hn' hn2' H9.out.2.2.2.1 (by omega)
                    rw [hdp4] at hcall
                    go_wp2_with (go_at_call 8; fail)
                    refine hcall.mono ?_
                    clear hcall i0 i1 i2 j0 j1 j2 s0 s1 s2 z0 z1 z2 e0 e1 e2 e3 e4 e5 hu' hi' hW8 hW9
                    rintro e w10 ⟨a5, p5, n5, c5, p6, n66, c6, ok, rfl, hf10, hok⟩
                    obtain ⟨J, hJ⟩ : ∃ J, w10.heap.size = J := ⟨_, rfl⟩
                    obtain ⟨W11, hW11⟩ : ∃ W, w10.alloc (.cells #[.int .u64 (a5 : Nat), .slice p5 n5 c5, .slice p6 n66 c6] 30) = W := ⟨_, rfl⟩
                    have hf11 : Fr (fun j => j = B0) W9 W11 := hf10.trans (hW11 ▸ (Fr.refl (fun _ => False) w10).alloc _) (fun j _ e => e.elim)
                    have hcon := H9.out.1.fr hf11 (fun j _ e e2 => by have := H6.out.2.2.2.2.2.2; omega)
                    have hrb := H9.out.2.1.fr hf11 (fun e => by omega)
                    have hbx : BoxAt W11 J (.int .u64 (a5 : Nat)) (.slice p5 n5 c5) (.slice p6 n66 c6) := by rw [← hW11, ← hJ]; exact BoxAt.new _ _ _ _
                    have H11 : Hid (Con n6 64 (d' + 1) W11 C (.int .u64 0) (.slice p k c') px k2 cx L ∧ BoxAt W11 (B + 1) (.int .u64 0) (.slice none 0 0) (.slice none 0 0) ∧ Fr (fun j => j = B0) wr W11) := ⟨hcon, hrb, H9.out.2.2.1.trans hf11 (fun _ _ e => e)⟩
                    have z0 := hcon.1.c0
                    have z1 := hcon.1.c1
                    have z2 := hcon.1.c2
                    cases ok
                    case' false =>
                      have e0 := hrb.c0
                      have e1 := hrb.c1
                      have e2 := hrb.c2
                      have e3 := hrb.f 0
                      have e4 := hrb.f 1
                      have e5 := hrb.f 2
                      clear hcon hrb hbx hf11 hok
                      go_wp2
                      obtain ⟨b1, f1⟩ := out_box H11.out.2.1 (.int .u64 0) (.slice p k c') (.slice px k2 cx) _ rfl
                      refine bodyPost_ret (results_two rfl _ _ (B + 1) 30 #[.int .u64 0, .slice p k c', .slice px k2 cx] (0, 0) _ rfl b1 Yba.underlying30 rfl (by kernel_rfl)) rfl ?_
                      exact HE.out 0 p k c' px k2 cx _ ((HY.out.1.trans H11.out.2.2 (fun j _ e => .inl e)).trans f1 (fun j _ e => .inr (by omega)))
                    case' true =>
                      obtain ⟨t5, ha5, hrep, hv5, b5, hb55, hbd5⟩ := hok rfl
                      subst ha5
                      have hrep2 : Rep (SE n6 px) 64 (d' + 1) W11 (.slice p5 n5 c5) (.slice p6 n66 c6) t5 := by
                        refine (hrep.below (hW11 ▸ (Below.refl _ w10).alloc (Nat.le_refl _) _)).mono (fun j hj hs => ⟨?_, fun e => ?_⟩) (Nat.le_refl _)
                        · have := H9.out.2.2.2.2; have := HX.out.1.2.2.2.2.2; omega
                        · have := H9.out.2.2.2.2
                          rcases HX.out.1.2.1.at with ⟨e2, _⟩ | ⟨g, e2, _, hlt, _⟩
                          · rw [e2] at e; cases e
                          · rw [e2] at e; cases e; omega
                      have hbd11 : Bud W11 B0 b5 := hbd5.fr (S := fun _ => False) (hW11 ▸ (Fr.refl (fun _ => False) w10).alloc _) (fun e => e)
                      obtain ⟨g', cg, w2, r, bx2, con2, fr2⟩ := hcon.app (by omega) ((.slice p5 n5 c5), (.slice p6 n66 c6), t5) hrep2
                      have HA : Hid _ := r
                      have v0 := hbx.c0
                      have v1 := hbx.c1
                      have v2 := hbx.c2
                      have z5 := bx2.c2
                      have z6 := bx2.f 2
                      have HN : Hid (Con n6 64 (d' + 1) (w2.setCell ⟨C, 2, none⟩ (.slice (some ⟨g', 0, none⟩) (k2 + 1) cg)) C (.int .u64 0) (.slice p k c') (some ⟨g', 0, none⟩) (k2 + 1) cg (L ++ [((.slice p5 n5 c5), (.slice p6 n66 c6), t5)]) ∧ Fr (fun j => j = B0 ∨ j = C ∨ n6 ≤ j) W6 (w2.setCell ⟨C, 2, none⟩ (.slice (some ⟨g', 0, none⟩) (k2 + 1) cg)) ∧ Bud (w2.setCell ⟨C, 2, none⟩ (.slice (some ⟨g', 0, none⟩) (k2 + 1) cg)) B0 b5 ∧ b5 ≤ 512 ∧ ∀ e ∈ L ++ [((.slice p5 n5 c5), (.slice p6 n66 c6), t5)], ∀ v ∈ flat (d' + 1) e.2.2, 0 ≤ v ∧ v < nn) := by
                        refine ⟨con2, (HX.out.2.1.trans (((H11.out.2.2.mono (T := fun j => j = B0 ∨ j = C ∨ n6 ≤ j) (fun j _ e => .inl e)).trans fr2 (fun j _ e => .inr e))) (fun j hj e => e)), hbd11.fr fr2 (fun e => ?_), hb55, fun e he => ?_⟩
                        · have := H6.out.2.2.2.2.2.2; omega
                        · rcases List.mem_append.1 he with he | he
                          · exact HX.out.2.2.2.2 e he
                          · simp only [List.mem_singleton] at he
                            subst he
                            exact hv5
                      clear r bx2 con2 fr2 hbx hrep hrep2 hbd5 hbd11 hcon hrb hf11 hf10 hok hv5
                      go_wp2_with (at_builtin; refine Lib.wpList_append_run _ rfl _ _ 28 28 rfl _ _ rfl rfl _ _ HA.out ?_)
                      go_roundw
                      case rel => exact ⟨k2 + 1, _, _, _, b5, by go_num, by omega, HN.out.1, HN.out.2.1, HN.out.2.2.1, HN.out.2.2.2.1, HN.out.2.2.2.2⟩
                      case measure => simp [intOf]; omega
                case' neg =>
                  have hk64 : k2 ≤ 64 := by omega
                  clear hbw HY
            all_goals
              have hsb : SBox wr B (.int .u8 x) (.slice q k c) (.slice q2 n2 c2) := H6.out.2.1.fr HX.out.2.1 (fun e => by have := H6.out.2.2.2.2.2.2; omega)
              have hrb : BoxAt wr (B + 1) (.int .u64 0) (.slice none 0 0) (.slice none 0 0) := H6.out.2.2.1.fr HX.out.2.1 (fun e => by have := H6.out.2.2.2.2.2.2; omega)
              have hcb := HX.out.1.1
              have y0 := hsb.c0
              have z0 := hcb.c0
              have z1 := hcb.c1
              have z2 := hcb.c2
              have z3 := hcb.f 0
              obtain ⟨am, ham⟩ : ∃ am : Nat, x % ((k : Int) + (k2 : Int) + 2) = am := ⟨(x % ((k : Int) + (k2 : Int) + 2)).toNat, by have := Int.emod_nonneg x (show ((k : Int) + (k2 : Int) + 2) ≠ 0 by omega); omega⟩
              have hat : x.tmod ((k : Int) + (k2 : Int) + 2) = am := by rw [Int.tmod_eq_emod_of_nonneg hx]; exact ham
              obtain ⟨W12, hW12⟩ : ∃ W, wr.setCell ⟨C, 0, none⟩ (.int .u64 (am : Int)) = W := ⟨_, rfl⟩
              have hf12 : Fr (fun j => j = C) wr W12 := hW12 ▸ (Fr.refl (fun j => j = C) wr).setCell (p := ⟨C, 0, none⟩) rfl _
              have hcb12 : BoxAt W12 C (.int .u64 (am : Int)) (.slice p k c') (.slice px k2 cx) := hW12 ▸ hcb.set0 _
              have hrb12 := hrb.fr hf12 (fun e => by have := H6.out.2.2.2.2.2.2; omega)
              have H12 : Hid (BoxAt W12 (B + 1) (.int .u64 0) (.slice none 0 0) (.slice none 0 0) ∧ Fr (fun j => j = C) wr W12) := ⟨hrb12, hf12⟩
              have v0 := hcb12.c0
              have v1 := hcb12.c1
              have v2 := hcb12.c2
              have e0 := hrb12.c0
              have e1 := hrb12.c1
              have e2 := hrb12.c2
              have e3 := hrb12.f 0
              have e4 := hrb12.f 1
              have e5 := hrb12.f 2
              clear hsb hrb hcb hf12 hcb12 hrb12
              go_wp2
              obtain ⟨b1, f1⟩ := out_box H12.out.1 (.int .u64 (am : Int)) (.slice p k c') (.slice px k2 cx) _ rfl
              refine bodyPost_ret (results_two rfl _ _ (B + 1) 30 #[.int .u64 (am : Int), .slice p k c', .slice px k2 cx] (0, 0) _ rfl b1 Yba.underlying30 rfl (by kernel_rfl)) rfl ?_
              have hff := (H12.out.2.mono (T := fun j => j = C ∨ j = B + 1) (fun j _ e => .inl e)).trans f1 (fun j _ e => .inr e)
              refine HT.out (am, u, L.map (·.2.2)) am p k c' px k2 cx b _ rfl ?_ ?_ ?_ HX.out.2.2.2.1 ?_
              · exact (H6.out.2.2.2.2.2.1.trans HX.out.2.1 (fun j hj e => by have := H6.out.2.2.2.2.2.2; omega)).trans hff (fun j hj e => by have := H6.out.2.2.2.2.2.2; omega)
              · have hul := H6.out.2.2.2.2.2.2.2.2.1
                have hin : IntRow (fun j => B + 3 ≤ j) wr p u := H6.out.2.2.2.2.1.keep (fun ad v hs e => by rw [HX.out.2.1.cell (cell_lt e) (fun e2 => by have := H6.out.2.2.2.2.2.2; have := cell_lt e; omega)]; exact e) (fun _ _ e => e)
                have hr := mkRep (S := fun j => B + 3 ≤ j) (m := 64) (cu := c') (a := am) (base := n6) hin HX.out.1.2.1 HX.out.1.2.2.1 (HX.out.1.2.2.2.1.mono (fun j _ hj => by have := hj.1; have := H6.out.2.2.2.2.2.2; omega) (Nat.le_refl _)) (fun j hj => by have := H6.out.2.2.2.2.2.2; omega) (by omega) hk64
                rw [hul] at hr
                exact (hr.fr hff (fun j hj e => by have := H6.out.2.2.2.2.2.2; omega)).mono (fun j _ hj => by omega) (Nat.le_refl _)
              · intro v hv
                rcases List.mem_append.1 hv with hv | hv
                · exact H6.out.2.2.2.2.2.2.2.2.2.1 v hv
                · obtain ⟨y, hy, hv⟩ := List.mem_flatMap.1 hv
                  obtain ⟨e, he, rfl⟩ := List.mem_map.1 hy
                  exact HX.out.2.2.2.2 e he v hv
              · exact HX.out.2.2.1.fr hff (fun e => by have := H6.out.2.2.2.2.2.2; omega)
theorem bld8 {W0 : World} {B0 nn : Nat} (hB0 : W0.heap.size ≤ B0) (hn1 : 1 ≤ nn) (hn8 : nn ≤ 8) : (d : Nat) → d ≤ 3 → Bld8 W0 B0 nn d
  | 0, h => Bld8.step hB0 hn1 hn8 h (fun d' e => by cases e)
  | d + 1, h => Bld8.step hB0 hn1 hn8 h (fun d' e => by cases e; exact bld8 hB0 hn1 hn8 d (by omega))
end Go.Proofs.Ybulkbciw
