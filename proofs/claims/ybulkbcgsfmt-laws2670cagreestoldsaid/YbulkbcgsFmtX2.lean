import Derived.Test.YbulkbcgsFmtX1
import Derived.Deep.OwnRows
namespace Go.Proofs.YbulkbcgsFmt
open Go.RowKit
set_option linter.unusedSimpArgs false
set_option linter.unusedVariables false
attribute [local go_sem ↓] Go.wp_at_zero Go.wp_at_succ
attribute [local go_sem] run_store_float

theorem below_drewN {B : Nat} {a w : World} (h : Below B a w) (n : Nat) : Below B a (w.drewN n) := ⟨h.os, h.tape, h.output, h.size, h.block⟩

set_option maxHeartbeats 400000 in
theorem join30 (b cap : Nat) (s sep : ByteArray) (w : World) (c0 : w.cell? ⟨b, 0, none⟩ = some (.string s)) :
    Calls Ybaf.prog 30 #[.slice (some ⟨b, 0, none⟩) 1 cap, .string sep] w fun e w' => e = .returned (.string s) ∧ w' = w := by
  go_enter Ybaf.func30, Ybaf.ntmps30
  go_wp2
  go_ret
  exact ⟨rfl, rfl⟩

def sStd : ByteArray := ⟨#[115, 116, 97, 110, 100, 97, 114, 100]⟩
def sUnl : ByteArray := ⟨#[117, 110, 108, 105, 109, 105, 116, 101, 100]⟩

set_option maxHeartbeats 800000 in
theorem list28 (b : Nat) (w : World) (c0 : w.cell? ⟨b, 0, none⟩ = some (.string ⟨#[115, 116, 97, 110, 100, 97, 114, 100]⟩)) (c1 : w.cell? ⟨b, 1, none⟩ = some (.string ⟨#[117, 110, 108, 105, 109, 105, 116, 101, 100]⟩)) :
    Calls Ybaf.prog 28 #[.slice (some ⟨b, 0, none⟩) 2 2, .string ⟨#[111, 114]⟩] w fun e w' => (∃ x, e = .returned (.string x)) ∧ ∃ m, w' = w.drewN m := by
  go_enter Ybaf.func28, Ybaf.ntmps28
  go_wp2
  go_quiet ((go_at_call 30; exact Calls.quiet_of_same (join30 _ _ _ _ _ (by simpa using c0))))
  go_wp2
  go_ret
  exact ⟨⟨_, rfl⟩, _, rfl⟩

theorem make74 (w : World) : (Instr.makeSlice 74 (.int .i64 2) (.int .i64 2)).run Ybaf.prog w = .ok (.slice (some ⟨w.heap.size, 0, none⟩) 2 2) (w.alloc (.cells #[.string ⟨#[]⟩, .string ⟨#[]⟩] 9)) := by
  have h := run_make_row' 74 9 (.string ⟨#[]⟩) 16 Ybaf.underlying74 (by kernel_rfl) rfl .i64 .i64 2 (by decide) (by decide) w
  have e : madeCells #[Value.string ⟨#[]⟩] 2 = #[.string ⟨#[]⟩, .string ⟨#[]⟩] := by kernel_rfl
  rw [e] at h
  exact h

set_option maxHeartbeats 1600000 in
theorem oneOf22 (b : Nat) (w : World) (hb : b < w.heap.size) (c0 : w.cell? ⟨b, 0, none⟩ = some (.string ⟨#[115, 116, 97, 110, 100, 97, 114, 100]⟩)) (c1 : w.cell? ⟨b, 1, none⟩ = some (.string ⟨#[117, 110, 108, 105, 109, 105, 116, 101, 100]⟩)) :
    Calls Ybaf.prog 22 #[.slice (some ⟨b, 0, none⟩) 2 2] w fun e w' => (∃ x, e = .returned (.string x)) ∧ Below w.heap.size w w' := by
  have mk := make74
  have hne : ¬ b = w.heap.size := by omega
  go_enter Ybaf.func22, Ybaf.ntmps22
  go_wp2
  refine wp_loop_rounds 3 ?_
  rw [rounds_succ]
  go_wp2
  rw [rounds_succ]
  go_wp2
  rw [rounds_succ]
  go_wp2_with (go_at_call 28; refine (list28 w.heap.size _ (by simp) (by simp)).mono ?_; rintro e w1 ⟨⟨x, rfl⟩, m, rfl⟩)
  go_ret
  exact ⟨⟨_, rfl⟩, below_drewN ((Below.refl _ w).alloc (Nat.le_refl _) _) _⟩

/-- the run is in range -/
def OkRun (d : Int) (p : Nat) : Prop := 0 < d ∧ finB p = true

theorem w2_cells (w W : World) (B : Nat) (md : ByteArray) (n : Int) (b mx ini : Nat) (d : Int) (pr : Nat) (e : (w.alloc (.cells #[.string md, .int .i64 n, .float .f64 b, .float .f64 mx, .float .f64 ini, .float .f64 0, .int .i64 d, .float .f64 pr] 46)).alloc modesObj = W) (hB : w.heap.size = B) :
    (∀ i, W.cell? ⟨B, i, none⟩ = #[Value.string md, .int .i64 n, .float .f64 b, .float .f64 mx, .float .f64 ini, .float .f64 0, .int .i64 d, .float .f64 pr][i]?) ∧ Below B w W ∧ B < W.heap.size := by
  subst e hB
  have h : ((w.alloc (.cells #[.string md, .int .i64 n, .float .f64 b, .float .f64 mx, .float .f64 ini, .float .f64 0, .int .i64 d, .float .f64 pr] 46)).alloc modesObj).heap[w.heap.size]? = some (.cells #[.string md, .int .i64 n, .float .f64 b, .float .f64 mx, .float .f64 ini, .float .f64 0, .int .i64 d, .float .f64 pr] 46) := by
    rw [Below.heap_alloc _ _ _ (by simp)]; exact heap_alloc_new _ _
  exact ⟨fun i => by simp only [World.cell?, h]; rfl, ((Below.refl _ w).alloc (Nat.le_refl _) _).alloc (by simp) _, by simp; omega⟩

theorem kept_cell {V w1 : World} {p : Addr} {v : Value} (hb : Below V.heap.size V w1) (h : V.cell? p = some v) : w1.cell? p = some v := by
  rw [World.cell?_of_block (hb.block _ (World.block_lt_of_cell? V _ h))]; exact h

theorem w3_cells {w : World} {B : Nat} (W2 : World) (md : ByteArray) (c : W2.cell? ⟨B, 0, none⟩ = some (.string md)) (hsz : B < W2.heap.size) (HL : Hid (Below B w W2)) :
    ∃ W3, W2.drew = W3 ∧ W3.cell? ⟨B, 0, none⟩ = some (.string md) ∧ (∀ o, (W3.drew.alloc o).cell? ⟨B, 0, none⟩ = some (.string md)) ∧ B < W3.heap.size ∧ Hid (Below B w W3) :=
  ⟨_, rfl, c, fun o => by rw [World.cell?_alloc_past _ _ _ (by simpa using hsz)]; exact c, hsz, HL.out.drew⟩

set_option maxHeartbeats 1600000 in
theorem val14_run (md : ByteArray) (n d : Int) (b mx ini pr : Nat) (w : World) (hmd : modeB md = true) (hI : OkInst n b mx ini) (hR : ¬ OkRun d pr) :
    Calls Ybaf.prog 14 #[.agg #[.string md, .int .i64 n, .float .f64 b, .float .f64 mx, .float .f64 ini, .float .f64 0, .int .i64 d, .float .f64 pr]] w fun e w' => ∃ t v, e = .returned (.iface t v) ∧ Below w.heap.size w w' := by
  have hz : (FloatKind.f64.format.order 0 0 == some .gt || FloatKind.f64.format.order 0 0 == some .eq) = true := by decide
  have hbx := box_cells w md n b mx ini 0 d pr
  have hst : (FloatKind.f64.format.order 0 mx == some .lt || FloatKind.f64.format.order 0 mx == some .eq) = true := start_ok mx (by have hm := hI.2.2.2.1; rw [finB, Bool.and_eq_true] at hm; exact hm.1)
  obtain ⟨i1, i2, i3, i4, i5, s, i6, i7⟩ := hI
  have HI : Hid (1 ≤ n ∧ pctB b = true ∧ hunB b = true ∧ finB mx = true ∧ finB ini = true ∧ Ieee.double.add mx ini = some s ∧ infB s = false) := ⟨i1, i2, i3, i4, i5, i6, i7⟩
  clear i1 i2 i3 i4 i5 i6 i7
  have HR : Hid (¬ OkRun d pr) := hR
  clear hR
  go_enter Ybaf.func14, Ybaf.ntmps14
  go_wp2
  obtain ⟨k0, k1, k2, k3, k4, k5, k6, k7, hbel, hsz⟩ := hbx
  generalize eW : w.alloc (.cells #[.string md, .int .i64 n, .float .f64 b, .float .f64 mx, .float .f64 ini, .float .f64 0, .int .i64 d, .float .f64 pr] 46) = W at k0 k1 k2 k3 k4 k5 k6 k7 hbel hsz ⊢
  generalize hB : w.heap.size = B at k0 k1 k2 k3 k4 k5 k6 k7 hbel hsz ⊢
  have HB : Hid (w.heap.size = B ∧ w.alloc (.cells #[.string md, .int .i64 n, .float .f64 b, .float .f64 mx, .float .f64 ini, .float .f64 0, .int .i64 d, .float .f64 pr] 46) = W) := ⟨hB, eW⟩
  clear hB eW
  go_region_held3 (fun w' => w'.cell? ⟨B, 0, none⟩ = some (.string md)) (go_keep)
    ((first
      | (go_at_call 21; refine (modes21 _).mono ?_; rintro e w1 ⟨rfl, rfl⟩)
      | (go_at_call 20; refine (contains20 _ _ _ ?_ ?_).mono ?_; (simp [modesObj]); (simp [modesObj]); rintro e w1 ⟨rfl, rfl⟩)))
  clear k0 k1 k2 k3 k4 k5 k6 k7 hbel hsz
  generalize e2 : W.alloc modesObj = W2
  obtain ⟨cells, hbel, hsz⟩ := w2_cells w W2 B md n b mx ini d pr (by rw [HB.out.2]; exact e2) HB.out.1
  clear e2
  have HL : Hid (Below B w W2) := hbel
  clear hbel
  go_wp2_with (first
    | (go_at_call 23; refine (vi23_ok _ _ _ _ s _ HI.out.1 HI.out.2.1 HI.out.2.2.1 HI.out.2.2.2.1 HI.out.2.2.2.2.1 HI.out.2.2.2.2.2.1 HI.out.2.2.2.2.2.2).mono ?_; rintro e w1 ⟨rfl, rfl⟩)
    | (go_at_call 25; refine (vr25_bad _ _ _ HR.out).mono ?_; rintro e w1 ⟨t, v, rfl, hb1⟩))
  go_ret
  exact ⟨_, _, rfl, by rw [HB.out.1]; exact HL.out.drew.trans (hb1.mono (Nat.le_of_lt hsz))⟩

set_option maxHeartbeats 1600000 in
theorem val14_inst (md : ByteArray) (n d : Int) (b mx ini pr : Nat) (w : World) (hmd : modeB md = true) (hI : ¬ OkInst n b mx ini) :
    Calls Ybaf.prog 14 #[.agg #[.string md, .int .i64 n, .float .f64 b, .float .f64 mx, .float .f64 ini, .float .f64 0, .int .i64 d, .float .f64 pr]] w fun e w' => ∃ t v, e = .returned (.iface t v) ∧ Below w.heap.size w w' := by
  have hz : (FloatKind.f64.format.order 0 0 == some .gt || FloatKind.f64.format.order 0 0 == some .eq) = true := by decide
  have hbx := box_cells w md n b mx ini 0 d pr
  have HI : Hid (¬ OkInst n b mx ini) := hI
  clear hI
  go_enter Ybaf.func14, Ybaf.ntmps14
  go_wp2
  obtain ⟨k0, k1, k2, k3, k4, k5, k6, k7, hbel, hsz⟩ := hbx
  generalize eW : w.alloc (.cells #[.string md, .int .i64 n, .float .f64 b, .float .f64 mx, .float .f64 ini, .float .f64 0, .int .i64 d, .float .f64 pr] 46) = W at k0 k1 k2 k3 k4 k5 k6 k7 hbel hsz ⊢
  generalize hB : w.heap.size = B at k0 k1 k2 k3 k4 k5 k6 k7 hbel hsz ⊢
  have HB : Hid (w.heap.size = B ∧ w.alloc (.cells #[.string md, .int .i64 n, .float .f64 b, .float .f64 mx, .float .f64 ini, .float .f64 0, .int .i64 d, .float .f64 pr] 46) = W) := ⟨hB, eW⟩
  clear hB eW
  go_region_held3 (fun w' => w'.cell? ⟨B, 0, none⟩ = some (.string md)) (go_keep)
    ((first
      | (go_at_call 21; refine (modes21 _).mono ?_; rintro e w1 ⟨rfl, rfl⟩)
      | (go_at_call 20; refine (contains20 _ _ _ ?_ ?_).mono ?_; (simp [modesObj]); (simp [modesObj]); rintro e w1 ⟨rfl, rfl⟩)))
  clear k0 k1 k2 k3 k4 k5 k6 k7 hbel hsz
  generalize e2 : W.alloc modesObj = W2
  obtain ⟨cells, hbel, hsz⟩ := w2_cells w W2 B md n b mx ini d pr (by rw [HB.out.2]; exact e2) HB.out.1
  clear e2
  have HL : Hid (Below B w W2) := hbel
  clear hbel
  go_wp2_with (go_at_call 23; refine (vi23_bad _ _ _ _ _ HI.out).mono ?_; rintro e w1 ⟨t, v, rfl, hb1⟩)
  go_ret
  exact ⟨_, _, rfl, by rw [HB.out.1]; exact HL.out.drew.trans (hb1.mono (Nat.le_of_lt hsz))⟩

set_option maxHeartbeats 1600000 in
theorem val14_mode (md : ByteArray) (n d : Int) (b mx ini pr : Nat) (w : World) (hmd : modeB md = false) :
    Calls Ybaf.prog 14 #[.agg #[.string md, .int .i64 n, .float .f64 b, .float .f64 mx, .float .f64 ini, .float .f64 0, .int .i64 d, .float .f64 pr]] w fun e w' => ∃ t v, e = .returned (.iface t v) ∧ Below w.heap.size w w' := by
  have hz : (FloatKind.f64.format.order 0 0 == some .gt || FloatKind.f64.format.order 0 0 == some .eq) = true := by decide
  have hbx := box_cells w md n b mx ini 0 d pr
  go_enter Ybaf.func14, Ybaf.ntmps14
  go_wp2
  obtain ⟨k0, k1, k2, k3, k4, k5, k6, k7, hbel, hsz⟩ := hbx
  generalize eW : w.alloc (.cells #[.string md, .int .i64 n, .float .f64 b, .float .f64 mx, .float .f64 ini, .float .f64 0, .int .i64 d, .float .f64 pr] 46) = W at k0 k1 k2 k3 k4 k5 k6 k7 hbel hsz ⊢
  generalize hB : w.heap.size = B at k0 k1 k2 k3 k4 k5 k6 k7 hbel hsz ⊢
  have HB : Hid (w.heap.size = B ∧ w.alloc (.cells #[.string md, .int .i64 n, .float .f64 b, .float .f64 mx, .float .f64 ini, .float .f64 0, .int .i64 d, .float .f64 pr] 46) = W) := ⟨hB, eW⟩
  clear hB eW
  go_region_held3 (fun w' => w'.cell? ⟨B, 0, none⟩ = some (.string md)) (go_keep)
    ((first
      | (go_at_call 21; refine (modes21 _).mono ?_; rintro e w1 ⟨rfl, rfl⟩)
      | (go_at_call 20; refine (contains20 _ _ _ ?_ ?_).mono ?_; (simp [modesObj]); (simp [modesObj]); rintro e w1 ⟨rfl, rfl⟩)))
  clear k0 k1 k2 k3 k4 k5 k6 k7 hbel hsz
  generalize e2 : W.alloc modesObj = W2
  obtain ⟨cells, hbel, hsz⟩ := w2_cells w W2 B md n b mx ini d pr (by rw [HB.out.2]; exact e2) HB.out.1
  clear e2
  have HL : Hid (Below B w W2) := hbel
  clear hbel
  go_wp2
  obtain ⟨W3, e3, l0, past, hsz3, HL3⟩ := w3_cells W2 md (by simpa using cells 0) hsz HL
  rw [e3]
  clear e3 cells hsz HL
  go_region_held3 (fun w' => w'.cell? ⟨B, 0, none⟩ = some (.string md)) (first | go_keep | (show _ = _; rw [hcX]))
    ((first
      | (go_at_call 21; refine (modes21 _).mono ?_; rintro e w1 ⟨rfl, rfl⟩)
      | (go_at_call 22; refine (oneOf22 _ _ ?_ ?_ ?_).mono ?_; (simp [modesObj]); (simp [modesObj]); (simp [modesObj]); rintro e w1 ⟨⟨x, rfl⟩, hb1⟩; have hcX := kept_cell hb1 (past _))))
  go_wp2
  go_ret
  have hs1 := hb1.size
  simp at hs1
  exact ⟨_, _, rfl, by rw [HB.out.1]; exact ((HL3.out.drew.alloc (by simp; omega) _).trans (hb1.mono (by simp; omega))).alloc (by omega) _⟩

theorem val14_bad (md : ByteArray) (n d : Int) (b mx ini pr : Nat) (w : World) (h : ¬ (modeB md = true ∧ OkInst n b mx ini ∧ OkRun d pr)) :
    Calls Ybaf.prog 14 #[.agg #[.string md, .int .i64 n, .float .f64 b, .float .f64 mx, .float .f64 ini, .float .f64 0, .int .i64 d, .float .f64 pr]] w fun e w' => ∃ t v, e = .returned (.iface t v) ∧ Below w.heap.size w w' := by
  cases hmd : modeB md
  · exact val14_mode md n d b mx ini pr w hmd
  · by_cases hI : OkInst n b mx ini
    · exact val14_run md n d b mx ini pr w hmd hI fun hr => h ⟨hmd, hI, hr⟩
    · exact val14_inst md n d b mx ini pr w hmd hI
end Go.Proofs.YbulkbcgsFmt
