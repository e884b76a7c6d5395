import Derived.Test.YbulkbciwL1
namespace Go.Proofs.Ybulkbciw
open Go.RowKit
set_option linter.unusedSimpArgs false
set_option linter.unusedVariables false

set_option maxHeartbeats 1000000 in
set_option maxRecDepth 10000 in
theorem law5 (x0 : Int) (p1 p2 : Option Addr) (n1 c1 n2 c2 : Nat) (mask : Int) (w : World) (h1 : n1 ≤ 9223372036854775807) (h2 : n2 ≤ 9223372036854775807) (h : I8 w p1 n1) (hm : Mids 9223372036854775807 w p2 n2) (hx0 : 0 ≤ x0) :
    Calls Yba.prog 5 #[.int .u8 x0, .slice p1 n1 c1, .slice p2 n2 c2, .int .u64 mask] w fun e w' => e = .returned (.bool true) ∧ Below w.heap.size w w' := by
  have HM : Hid (I8 w p1 n1 ∧ Mids 9223372036854775807 w p2 n2) := ⟨h, hm⟩
  clear h hm
  go_enter Yba.func5, Yba.ntmps5
  go_wp2_with (go_at_call 19; fail)
  refine (toobig19 p1 p2 n1 c1 n2 c2 w h1 h2 HM.out.2).mono ?_
  rintro e w1 ⟨r, rfl, hb1, hr⟩
  cases r with
  | true =>
    have HB : Hid (Below w.heap.size w w1) := hb1
    clear hb1 hr
    go_wp2
    go_ret
    exact ⟨rfl, HB.out⟩
  | false =>
    obtain ⟨s1, s2, hmid⟩ := hr rfl
    have HB : Hid (Below w.heap.size w w1 ∧ Mids 256 w p2 n2) := ⟨hb1, hmid⟩
    clear hb1 hr hmid
    go_wp2_with (go_at_call 20; fail)
    refine (build20 x0 p1 p2 n1 c1 n2 c2 w1 s1 s2 (HM.out.1.below HB.out.1) (HB.out.2.below HB.out.1) hx0).mono ?_
    rintro e w2 ⟨vs, is, t, rfl, hrep, hb2⟩
    obtain ⟨q1, q2, q3, q4, q5, q6, rfl, rfl⟩ := Rep.slices 3 _ _ _ hrep
    obtain ⟨nt, hnt⟩ : ∃ n, thr 3 t = n := ⟨_, rfl⟩
    have H2 : Hid (Rep (fun _ => True) 256 3 w2 (.slice q1 q2 q3) (.slice q4 q5 q6) t ∧ Below w.heap.size w w2 ∧ thr 3 t = nt) := ⟨hrep, HB.out.1.trans (hb2.mono HB.out.1.size), hnt⟩
    rw [hnt]
    clear hrep hb2 hnt
    go_wp2_with (go_at_call 21; fail)
    obtain ⟨Bq, hBq⟩ : ∃ B, w2.heap.size = B := ⟨_, rfl⟩
    obtain ⟨W3, hW3⟩ : ∃ W, w2.alloc (.cells #[.int .u64 (nt : Nat), .slice q1 q2 q3, .slice q4 q5 q6] 30) = W := ⟨_, rfl⟩
    have H3 : Hid (Below w2.heap.size w2 W3 ∧ BoxAt W3 Bq (.int .u64 (nt : Nat)) (.slice q1 q2 q3) (.slice q4 q5 q6) ∧ Rep (fun _ => True) 256 3 W3 (.slice q1 q2 q3) (.slice q4 q5 q6) t) := by
      have hb : Below w2.heap.size w2 W3 := hW3 ▸ (Below.refl _ w2).alloc (Nat.le_refl _) _
      exact ⟨hb, by rw [← hW3, ← hBq]; exact BoxAt.new _ _ _ _, H2.out.1.below hb⟩
    rw [hBq, hW3]
    clear hBq hW3
    have hcon := can21 3 W3 _ _ t H3.out.2.2
    rw [H2.out.2.2] at hcon
    refine hcon.mono ?_
    clear hcon
    rintro e w4 ⟨vs', is', t', rfl, hrep', hsat, hb4⟩
    obtain ⟨r1, r2, r3, r4, r5, r6, rfl, rfl⟩ := Rep.slices 3 _ _ _ hrep'
    obtain ⟨mt, hmt⟩ : ∃ n, thr 3 t' = n := ⟨_, rfl⟩
    rw [hmt]
    obtain ⟨s, hs⟩ : ∃ s, satT (atMask mask) 3 t = s := ⟨_, rfl⟩
    obtain ⟨Bc, hBc⟩ : ∃ B, w4.heap.size = B := ⟨_, rfl⟩
    obtain ⟨W5, hW5⟩ : ∃ W, w4.alloc (.cells #[.int .u64 (mt : Nat), .slice r1 r2 r3, .slice r4 r5 r6] 30) = W := ⟨_, rfl⟩
    have hb45 : Below w4.heap.size w4 W5 := hW5 ▸ (Below.refl _ w4).alloc (Nat.le_refl _) _
    have hb35 : Below W3.heap.size W3 W5 := hb4.trans (hb45.mono hb4.size)
    have hboxc : BoxAt W5 Bc (.int .u64 (mt : Nat)) (.slice r1 r2 r3) (.slice r4 r5 r6) := by rw [← hW5, ← hBc]; exact BoxAt.new _ _ _ _
    have hboxq : BoxAt W5 Bq (.int .u64 (nt : Nat)) (.slice q1 q2 q3) (.slice q4 q5 q6) := BoxAt.fr H3.out.2.1 (Below.toFr hb35) (fun e => e)
    have hrc : Rep (fun _ => True) 512 3 W5 (.slice r1 r2 r3) (.slice r4 r5 r6) t' := (hrep'.below hb45).mono (fun _ _ _ => trivial) (Nat.le_refl _)
    have hrq : Rep (fun _ => True) 256 3 W5 (.slice q1 q2 q3) (.slice q4 q5 q6) t := H3.out.2.2.below hb35
    have HF : Hid ((∀ W, Below W5.heap.size W5 W → ∀ v, (v = .agg #[.int .u64 (mt : Nat), .slice r1 r2 r3, .slice r4 r5 r6] ∨ v = .agg #[.int .u64 (nt : Nat), .slice q1 q2 q3, .slice q4 q5 q6]) → Calls Yba.prog 22 #[v, .int .u64 mask] W fun e w' => e = .returned (.bool s) ∧ Below W.heap.size W w') ∧ Below w.heap.size w W5) := by
      refine ⟨fun W hb v hv => ?_, ?_⟩
      · rcases hv with rfl | rfl
        · have h := sat22 (fun _ => True) (m := 512) (by decide) mask 3 W _ _ t' (hrc.below hb)
          rw [hmt, hsat, hs] at h
          exact h
        · have h := sat22 (fun _ => True) (m := 256) (by decide) mask 3 W _ _ t (hrq.below hb)
          rw [H2.out.2.2, hs] at h
          exact h
      · exact (H2.out.2.1.trans (H3.out.1.mono H2.out.2.1.size)).trans (hb35.mono (Nat.le_trans H2.out.2.1.size H3.out.1.size))
    have y0 := hboxc.c0
    have y1 := hboxc.c1
    have y2 := hboxc.c2
    have z0 := hboxq.c0
    have z1 := hboxq.c1
    have z2 := hboxq.c2
    clear hrc hrq hboxc hboxq hb35 hb45 hrep' hsat hb4 hmt hs
    cases s with
    | true =>
      go_wp2
      have hc6 : Below W5.heap.size W5 W5.drew := (Below.refl _ W5).drew
      go_region_held3 (fun w' => w'.cell? ⟨Bc, 0, none⟩ = some (.int .u64 (mt : Nat)) ∧ w'.cell? ⟨Bc, 1, none⟩ = some (.slice r1 r2 r3) ∧ w'.cell? ⟨Bc, 2, none⟩ = some (.slice r4 r5 r6) ∧ w'.cell? ⟨Bq, 0, none⟩ = some (.int .u64 (nt : Nat)) ∧ w'.cell? ⟨Bq, 1, none⟩ = some (.slice q1 q2 q3) ∧ w'.cell? ⟨Bq, 2, none⟩ = some (.slice q4 q5 q6))
        (first | (exact ⟨cell_bl hc6 y0, cell_bl hc6 y1, cell_bl hc6 y2, cell_bl hc6 z0, cell_bl hc6 z1, cell_bl hc6 z2⟩) | go_keep)
        ((first
          | (go_at_call 22; refine (HF.out.1 _ hc6 _ (by first | exact .inl rfl | exact .inr rfl)).mono ?_; rintro e w6 ⟨rfl, hb6⟩; replace hc6 := Below.trans hc6 (hb6.mono hc6.size); clear hb6)))
      all_goals go_wp2
      all_goals go_ret
      all_goals exact ⟨rfl, HF.out.2.trans (hc6.mono HF.out.2.size)⟩
    | false =>
      go_wp2
      have hc6 : Below W5.heap.size W5 W5.drew := (Below.refl _ W5).drew
      go_region_held3 (fun w' => w'.cell? ⟨Bc, 0, none⟩ = some (.int .u64 (mt : Nat)) ∧ w'.cell? ⟨Bc, 1, none⟩ = some (.slice r1 r2 r3) ∧ w'.cell? ⟨Bc, 2, none⟩ = some (.slice r4 r5 r6) ∧ w'.cell? ⟨Bq, 0, none⟩ = some (.int .u64 (nt : Nat)) ∧ w'.cell? ⟨Bq, 1, none⟩ = some (.slice q1 q2 q3) ∧ w'.cell? ⟨Bq, 2, none⟩ = some (.slice q4 q5 q6))
        (first | (exact ⟨cell_bl hc6 y0, cell_bl hc6 y1, cell_bl hc6 y2, cell_bl hc6 z0, cell_bl hc6 z1, cell_bl hc6 z2⟩) | go_keep)
        ((first
          | (go_at_call 22; refine (HF.out.1 _ hc6 _ (by first | exact .inl rfl | exact .inr rfl)).mono ?_; rintro e w6 ⟨rfl, hb6⟩; replace hc6 := Below.trans hc6 (hb6.mono hc6.size); clear hb6)))
      all_goals go_wp2
      all_goals go_ret
      all_goals exact ⟨rfl, HF.out.2.trans (hc6.mono HF.out.2.size)⟩
end Go.Proofs.Ybulkbciw
