import Derived.Test.YbulkbcgsFmtW8
namespace Go.Proofs.YbulkbcgsFmt
open Go.RowKit
set_option linter.unusedSimpArgs false
set_option linter.unusedVariables false
attribute [local go_sem ↓] Go.wp_at_zero Go.wp_at_succ
attribute [local go_sem] run_store_float

theorem val_kept {w w1 : World} {c1 c2 : Array Value} (hb : Below ((w.alloc (.cells c1 24)).alloc (.cells c2 28)).heap.size ((w.alloc (.cells c1 24)).alloc (.cells c2 28)) w1) :
    (∀ i, w1.cell? ⟨w.heap.size, i, none⟩ = c1[i]?) ∧ (∀ i, w1.cell? ⟨w.heap.size + 1, i, none⟩ = c2[i]?) ∧ Below w.heap.size w w1 ∧ w.heap.size + 1 < w1.heap.size := by
  have hs : ((w.alloc (.cells c1 24)).alloc (.cells c2 28)).heap.size = w.heap.size + 1 + 1 := by simp
  rw [hs] at hb
  have hsz := hb.size
  rw [hs] at hsz
  have e1 : w1.heap[w.heap.size]? = some (.cells c1 24 (0, 0)) := by
    rw [hb.block _ (by omega), Below.heap_alloc _ _ _ (by simp)]; exact heap_alloc_new _ _
  have e2 : w1.heap[w.heap.size + 1]? = some (.cells c2 28 (0, 0)) := by
    rw [hb.block _ (by omega)]
    have := heap_alloc_new (w.alloc (.cells c1 24)) (.cells c2 28)
    simpa using this
  have bel : Below w.heap.size w w1 := (((Below.refl _ w).alloc (Nat.le_refl _) _).alloc (by simp) _).trans (hb.mono (by omega))
  exact ⟨fun i => by simp [World.cell?, e1], fun i => by simp [World.cell?, e2], bel, by omega⟩

theorem val_new {w w1 : World} {c1 c2 : Array Value} (cA : ∀ i, w1.cell? ⟨w.heap.size, i, none⟩ = c1[i]?) (cB : ∀ i, w1.cell? ⟨w.heap.size + 1, i, none⟩ = c2[i]?) (hsz : w.heap.size + 1 < w1.heap.size) :
    (∀ c3 i, (w1.alloc (.cells c3 33)).cell? ⟨w.heap.size, i, none⟩ = c1[i]?) ∧ (∀ c3 i, (w1.alloc (.cells c3 33)).cell? ⟨w.heap.size + 1, i, none⟩ = c2[i]?) := by
  have k : ∀ c3 b i, b < w1.heap.size → (w1.alloc (.cells c3 33)).cell? ⟨b, i, none⟩ = w1.cell? ⟨b, i, none⟩ := fun c3 b i hb => by
    simp only [World.cell?]; rw [Below.heap_alloc _ _ _ hb]
  exact ⟨fun c3 i => by rw [k _ _ _ (by omega)]; exact cA i, fun c3 i => by rw [k _ _ _ (by omega)]; exact cB i⟩

set_option maxHeartbeats 1600000 in
theorem valid4 (vc ba mx ini st sel pr : Int) (w : World) (v0 : 0 ≤ vc) (v1 : vc < 65536) (b0 : 0 ≤ ba) (b1 : ba < 256) (m0 : 0 ≤ mx) (m1 : mx < 4294967296) (i0 : 0 ≤ ini) (i1 : ini < 4294967296) (s0 : 0 ≤ st) (s1 : st < 4294967296) (e0 : 0 ≤ sel) (e1 : sel < 256) (p0 : 0 ≤ pr) (p1 : pr < 65536) :
    Calls Ybaf.prog 4 #[.int .u16 vc, .int .u8 ba, .int .u32 mx, .int .u32 ini, .int .u32 st, .int .u8 sel, .int .u16 pr] w fun e w' =>
      e = .returned (.bool true) ∧ Below w.heap.size w w' := by
  obtain ⟨q, hq, fq⟩ := price_int pr p0 (by omega)
  have r1 := fun w => run_float_arith (P := Ybaf.prog) w .quo 22 .f64 _ _ q hq
  clear hq
  obtain ⟨s, hs, hs2⟩ := sum_int (mx % 100000) (ini % 100000) (by omega) (by omega) (by omega) (by omega)
  obtain ⟨fb1, fb2⟩ := base_ok (1 + ba % 100) (by omega) (by omega)
  have fm := finB_int (mx % 100000) (by omega) (by omega)
  have fi := finB_int (ini % 100000) (by omega) (by omega)
  have HS : Hid (Ieee.double.add (floatOfInt .f64 (mx % 100000)) (floatOfInt .f64 (ini % 100000)) = some s) := hs
  clear hs
  have H6 : Hid (∀ md, modeB md = true → ∀ w, _) := fun md hmd w => nmr6_ok (ByteArray.mk #[112]) md (1 + vc % 128) ((1 + st) * 1000000000) 1 _ _ _ q 4607182418800017408 s none 0 0 w hmd (by omega) (by omega) fb1 fb2 fm fi HS.out hs2 (by omega) (by omega) fq
  have H7 : Hid (∀ md, modeB md = true → ∀ g w hg, _) := fun md hmd g w hg => check7_ok (ByteArray.mk #[112]) md (1 + vc % 128) ((1 + st) * 1000000000) 1 _ _ _ q 4607182418800017408 s none 0 0 g w hmd (by omega) (by omega) fb1 fb2 fm fi HS.out hs2 (by omega) (by omega) fq hg
  clear fb1 fb2 fm fi hs2 fq
  have hU : modeB (ByteArray.mk #[117, 110, 108, 105, 109, 105, 116, 101, 100]) = true := by decide +kernel
  have hT : modeB (ByteArray.mk #[115, 116, 97, 110, 100, 97, 114, 100]) = true := by decide +kernel
  have HU := H6.out _ hU
  have HT := H6.out _ hT
  have CU := H7.out _ hU
  have CT := H7.out _ hT
  clear hU hT H6 H7
  by_cases hsel : sel % 2 = 1
  · go_enter Ybaf.func4, Ybaf.ntmps4
    go_wp2_with (first
      | (go_at_call 6; refine (HU _).mono ?_; rintro e w1 ⟨g, rfl, hg, hb, hge⟩; obtain ⟨cA, cB, hbw, hsz⟩ := val_kept hb; obtain ⟨dA, dB⟩ := val_new cA cB hsz; have HG : Hid (w1.heap[g]? = _ ∧ Below w.heap.size w w1) := ⟨hg, hbw⟩; clear hg hb hge hbw)
      | (go_at_call 7; refine (CU g _ (by rw [Below.heap_alloc _ _ _ (lt_of_block HG.out.1)]; exact HG.out.1)).mono ?_; rintro e w2 ⟨rfl, hb2⟩))
    go_ret
    exact ⟨rfl, (HG.out.2.alloc (by have := HG.out.2.size; omega) _).trans (hb2.mono (by have := HG.out.2.size; simp; omega))⟩
  · go_enter Ybaf.func4, Ybaf.ntmps4
    go_wp2_with (first
      | (go_at_call 6; refine (HT _).mono ?_; rintro e w1 ⟨g, rfl, hg, hb, hge⟩; obtain ⟨cA, cB, hbw, hsz⟩ := val_kept hb; obtain ⟨dA, dB⟩ := val_new cA cB hsz; have HG : Hid (w1.heap[g]? = _ ∧ Below w.heap.size w w1) := ⟨hg, hbw⟩; clear hg hb hge hbw)
      | (go_at_call 7; refine (CT g _ (by rw [Below.heap_alloc _ _ _ (lt_of_block HG.out.1)]; exact HG.out.1)).mono ?_; rintro e w2 ⟨rfl, hb2⟩))
    go_ret
    exact ⟨rfl, (HG.out.2.alloc (by have := HG.out.2.size; omega) _).trans (hb2.mono (by have := HG.out.2.size; simp; omega))⟩
end Go.Proofs.YbulkbcgsFmt
