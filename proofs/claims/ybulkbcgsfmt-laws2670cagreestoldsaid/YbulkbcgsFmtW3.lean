import Derived.Test.YbulkbcgsFmtW2
import Derived.Deep.RegionHeld3
import Derived.Deep.DrawnRows
namespace Go.Proofs.YbulkbcgsFmt
open Go.RowKit
set_option linter.unusedSimpArgs false
set_option linter.unusedVariables false
attribute [local go_sem ↓] Go.wp_at_zero Go.wp_at_succ

def pctB (b : Nat) : Bool := FloatKind.f64.format.order b 0 == some .gt
def hunB (b : Nat) : Bool := (FloatKind.f64.format.order b 4636737291354636288 == some .lt || FloatKind.f64.format.order b 4636737291354636288 == some .eq)
def infB (s : Nat) : Bool := FloatKind.f64.format.order s 9218868437227405311 == some .gt

theorem num_fin (x : Nat) (h : finB x = true) : ∃ s m p, Ieee.double.read x = .number s m p := by
  rw [finB, Bool.and_eq_true] at h
  refine num_of_fin x ((geB_iff x).1 h.1) (fun e => ?_)
  have := leB_eq x h.1
  rw [h.2, fmt64, e] at this
  simp at this

theorem sum_fin (x y : Nat) (hx : finB x = true) (hy : finB y = true) : ∃ s, Ieee.double.add x y = some s := add_some (num_fin x hx) (num_fin y hy)

theorem pct_fin (b : Nat) (h1 : pctB b = true) (h2 : hunB b = true) : Fin (Ieee.double.read b) 7 := by
  refine fin_of_percent b (by simpa [pctB, fmt64] using h1) (fun e => ?_)
  rw [hunB, fmt64, e] at h2
  simp at h2

theorem start_ok (x : Nat) (h : geB x = true) : (FloatKind.f64.format.order 0 x == some .lt || FloatKind.f64.format.order 0 x == some .eq) = true := by
  rw [fmt64, order_swap x 0]
  rcases (geB_iff x).1 h with e | e <;> rw [e] <;> rfl

set_option maxHeartbeats 800000 in
theorem vi23_ok (n : Int) (b mx ini s : Nat) (w : World) (hn : 1 ≤ n) (hb1 : pctB b = true) (hb2 : hunB b = true) (hm : finB mx = true) (hi : finB ini = true) (hs : Ieee.double.add mx ini = some s) (hs2 : infB s = false) :
    Calls Ybaf.prog 23 #[.int .i64 n, .float .f64 b, .float .f64 mx, .float .f64 ini] w fun e w' => e = .returned .nilIface ∧ w = w' := by
  have r1 := fun w => run_float_arith (P := Ybaf.prog) w .add 22 .f64 _ _ s hs
  unfold pctB at hb1
  unfold hunB at hb2
  unfold infB at hs2
  clear hs
  go_enter Ybaf.func23, Ybaf.ntmps23
  go_wp2_with (first
    | (go_at_call 29; refine (fnn29 _ _).mono ?_; rintro e w' ⟨rfl, hw⟩; subst hw)
    | (go_at_call 11; refine (isInf11 _ _).mono ?_; rintro e w' ⟨rfl, hw⟩; subst hw))
  go_ret
  exact ⟨rfl, rfl⟩

set_option maxHeartbeats 800000 in
theorem vr25_ok (d : Int) (p : Nat) (w : World) (hd : 0 < d) (hp : finB p = true) :
    Calls Ybaf.prog 25 #[.int .i64 d, .float .f64 p] w fun e w' => e = .returned .nilIface ∧ w = w' := by
  go_enter Ybaf.func25, Ybaf.ntmps25
  go_wp2_with (first
    | (go_at_call 29; refine (fnn29 _ _).mono ?_; rintro e w' ⟨rfl, hw⟩; subst hw))
  go_ret
  exact ⟨rfl, rfl⟩

/-- the cells of a boxed CreditParams -/
theorem box_cells (w : World) (md : ByteArray) (n : Int) (b mx ini st : Nat) (d : Int) (pr : Nat) :
    (w.alloc (.cells #[.string md, .int .i64 n, .float .f64 b, .float .f64 mx, .float .f64 ini, .float .f64 st, .int .i64 d, .float .f64 pr] 46)).cell? ⟨w.heap.size, 0, none⟩ = some (.string md) ∧
    (w.alloc (.cells #[.string md, .int .i64 n, .float .f64 b, .float .f64 mx, .float .f64 ini, .float .f64 st, .int .i64 d, .float .f64 pr] 46)).cell? ⟨w.heap.size, 1, none⟩ = some (.int .i64 n) ∧
    (w.alloc (.cells #[.string md, .int .i64 n, .float .f64 b, .float .f64 mx, .float .f64 ini, .float .f64 st, .int .i64 d, .float .f64 pr] 46)).cell? ⟨w.heap.size, 2, none⟩ = some (.float .f64 b) ∧
    (w.alloc (.cells #[.string md, .int .i64 n, .float .f64 b, .float .f64 mx, .float .f64 ini, .float .f64 st, .int .i64 d, .float .f64 pr] 46)).cell? ⟨w.heap.size, 3, none⟩ = some (.float .f64 mx) ∧
    (w.alloc (.cells #[.string md, .int .i64 n, .float .f64 b, .float .f64 mx, .float .f64 ini, .float .f64 st, .int .i64 d, .float .f64 pr] 46)).cell? ⟨w.heap.size, 4, none⟩ = some (.float .f64 ini) ∧
    (w.alloc (.cells #[.string md, .int .i64 n, .float .f64 b, .float .f64 mx, .float .f64 ini, .float .f64 st, .int .i64 d, .float .f64 pr] 46)).cell? ⟨w.heap.size, 5, none⟩ = some (.float .f64 st) ∧
    (w.alloc (.cells #[.string md, .int .i64 n, .float .f64 b, .float .f64 mx, .float .f64 ini, .float .f64 st, .int .i64 d, .float .f64 pr] 46)).cell? ⟨w.heap.size, 6, none⟩ = some (.int .i64 d) ∧
    (w.alloc (.cells #[.string md, .int .i64 n, .float .f64 b, .float .f64 mx, .float .f64 ini, .float .f64 st, .int .i64 d, .float .f64 pr] 46)).cell? ⟨w.heap.size, 7, none⟩ = some (.float .f64 pr) ∧
    Below w.heap.size w (w.alloc (.cells #[.string md, .int .i64 n, .float .f64 b, .float .f64 mx, .float .f64 ini, .float .f64 st, .int .i64 d, .float .f64 pr] 46)) ∧
    w.heap.size < (w.alloc (.cells #[.string md, .int .i64 n, .float .f64 b, .float .f64 mx, .float .f64 ini, .float .f64 st, .int .i64 d, .float .f64 pr] 46)).heap.size := by
  refine ⟨by simp, by simp, by simp, by simp, by simp, by simp, by simp, by simp, (Below.refl _ w).alloc (Nat.le_refl _) _, by simp⟩

set_option maxHeartbeats 1600000 in
theorem val14_ok (md : ByteArray) (n d : Int) (b mx ini pr s : Nat) (w : World) (hmd : modeB md = true) (hn : 1 ≤ n) (hb1 : pctB b = true) (hb2 : hunB b = true) (hm : finB mx = true) (hi : finB ini = true) (hs : Ieee.double.add mx ini = some s) (hs2 : infB s = false) (hd : 0 < d) (hp : finB pr = true) :
    Calls Ybaf.prog 14 #[.agg #[.string md, .int .i64 n, .float .f64 b, .float .f64 mx, .float .f64 ini, .float .f64 0, .int .i64 d, .float .f64 pr]] w fun e w' => e = .returned .nilIface ∧ Below w.heap.size w w' := by
  have hst : (FloatKind.f64.format.order 0 mx == some .lt || FloatKind.f64.format.order 0 mx == some .eq) = true := start_ok mx (by rw [finB, Bool.and_eq_true] at hm; exact hm.1)
  have hz : (FloatKind.f64.format.order 0 0 == some .gt || FloatKind.f64.format.order 0 0 == some .eq) = true := by decide
  have HA : Hid (pctB b = true ∧ hunB b = true ∧ finB mx = true ∧ finB ini = true ∧ Ieee.double.add mx ini = some s ∧ infB s = false ∧ finB pr = true) := ⟨hb1, hb2, hm, hi, hs, hs2, hp⟩
  clear hb1 hb2 hm hi hs hs2 hp
  have hbx := box_cells w md n b mx ini 0 d pr
  go_enter Ybaf.func14, Ybaf.ntmps14
  go_wp2
  obtain ⟨k0, k1, k2, k3, k4, k5, k6, k7, hbel, hsz⟩ := hbx
  generalize w.alloc (.cells #[.string md, .int .i64 n, .float .f64 b, .float .f64 mx, .float .f64 ini, .float .f64 0, .int .i64 d, .float .f64 pr] 46) = W at k0 k1 k2 k3 k4 k5 k6 k7 hbel hsz ⊢
  generalize hB : w.heap.size = B at k0 k1 k2 k3 k4 k5 k6 k7 hbel hsz ⊢
  have HB : Hid (w.heap.size = B) := hB
  clear hB
  go_region_held3 (fun w' => w'.cell? ⟨B, 0, none⟩ = some (.string md)) (go_keep)
    ((first
      | (go_at_call 21; refine (modes21 _).mono ?_; rintro e w1 ⟨rfl, rfl⟩)
      | (go_at_call 20; refine (contains20 _ _ _ ?_ ?_).mono ?_; (simp [modesObj]); (simp [modesObj]); rintro e w1 ⟨rfl, rfl⟩)))
  have past : ∀ i v, W.cell? ⟨B, i, none⟩ = some v → (W.alloc modesObj).cell? ⟨B, i, none⟩ = some v := fun i v h => by rw [World.cell?_alloc_past _ _ _ hsz]; exact h
  have l0 := past _ _ k0
  have l1 := past _ _ k1
  have l2 := past _ _ k2
  have l3 := past _ _ k3
  have l4 := past _ _ k4
  have l5 := past _ _ k5
  have l6 := past _ _ k6
  have l7 := past _ _ k7
  have hbel2 : Below B w (W.alloc modesObj) := hbel.alloc (by omega) _
  clear past k0 k1 k2 k3 k4 k5 k6 k7 hbel
  generalize W.alloc modesObj = W2 at l0 l1 l2 l3 l4 l5 l6 l7 hbel2 ⊢
  go_wp2_with (first
    | (go_at_call 23; refine (vi23_ok _ _ _ _ s _ hn HA.out.1 HA.out.2.1 HA.out.2.2.1 HA.out.2.2.2.1 HA.out.2.2.2.2.1 HA.out.2.2.2.2.2.1).mono ?_; rintro e w1 ⟨rfl, rfl⟩)
    | (go_at_call 25; refine (vr25_ok _ _ _ hd HA.out.2.2.2.2.2.2).mono ?_; rintro e w1 ⟨rfl, rfl⟩))
  go_ret
  exact ⟨rfl, by rw [HB.out]; exact hbel2.drew⟩
end Go.Proofs.YbulkbcgsFmt
