import Derived.Test.YbulkbcgsFmtW3
namespace Go.Proofs.YbulkbcgsFmt
open Go.RowKit
set_option linter.unusedSimpArgs false
set_option linter.unusedVariables false
attribute [local go_sem ↓] Go.wp_at_zero Go.wp_at_succ

/-- the cells of a fresh ledger -/
def ledgerCells (md : ByteArray) (n : Int) (b mx ini : Nat) (d : Int) (pr : Nat) (vf mf ef : Nat) : Array Value :=
  #[.string md, .int .i64 n, .float .f64 b, .float .f64 mx, .float .f64 ini, .float .f64 0, .int .i64 d, .float .f64 pr, .float .f64 vf, .float .f64 mf, .float .f64 ef, .float .f64 0, .float .f64 ini, .float .f64 0,
    .int .i64 0, .float .f64 0, .float .f64 0, .float .f64 0, .float .f64 0, .float .f64 0, .float .f64 0, .float .f64 0, .float .f64 0, .float .f64 0, .float .f64 0, .float .f64 0]

theorem build53 (md : ByteArray) (n : Int) (b mx ini : Nat) (d : Int) (pr : Nat) (vf mf ef : Nat) (w : World) :
    (Instr.build 53 #[(0, .agg #[.string md, .int .i64 n, .float .f64 b, .float .f64 mx, .float .f64 ini, .float .f64 0, .int .i64 d, .float .f64 pr]), (1, .float .f64 vf), (2, .float .f64 mf), (3, .float .f64 ef), (4, .float .f64 0), (5, .float .f64 ini)]).run Ybaf.prog w =
      .ok (.agg (ledgerCells md n b mx ini d pr vf mf ef)) w := run_build w 53 _ _ (by kernel_rfl)

theorem box_kept {w w1 : World} {md : ByteArray} {n : Int} {b mx ini st : Nat} {d : Int} {pr : Nat}
    (hb : Below (w.alloc (.cells #[.string md, .int .i64 n, .float .f64 b, .float .f64 mx, .float .f64 ini, .float .f64 st, .int .i64 d, .float .f64 pr] 46)).heap.size (w.alloc (.cells #[.string md, .int .i64 n, .float .f64 b, .float .f64 mx, .float .f64 ini, .float .f64 st, .int .i64 d, .float .f64 pr] 46)) w1) :
    w1.cell? ⟨w.heap.size, 0, none⟩ = some (.string md) ∧ w1.cell? ⟨w.heap.size, 1, none⟩ = some (.int .i64 n) ∧ w1.cell? ⟨w.heap.size, 2, none⟩ = some (.float .f64 b) ∧ w1.cell? ⟨w.heap.size, 3, none⟩ = some (.float .f64 mx) ∧
    w1.cell? ⟨w.heap.size, 4, none⟩ = some (.float .f64 ini) ∧ w1.cell? ⟨w.heap.size, 5, none⟩ = some (.float .f64 st) ∧ w1.cell? ⟨w.heap.size, 6, none⟩ = some (.int .i64 d) ∧ w1.cell? ⟨w.heap.size, 7, none⟩ = some (.float .f64 pr) ∧
    Below w.heap.size w w1 ∧ w.heap.size < w1.heap.size := by
  obtain ⟨k0, k1, k2, k3, k4, k5, k6, k7, hbel, hsz⟩ := box_cells w md n b mx ini st d pr
  refine ⟨?_, ?_, ?_, ?_, ?_, ?_, ?_, ?_, hbel.trans (hb.mono (by omega)), Nat.lt_of_lt_of_le hsz hb.size⟩
  · rw [hb.cell (p := ⟨w.heap.size, 0, none⟩) hsz]; exact k0
  · rw [hb.cell (p := ⟨w.heap.size, 1, none⟩) hsz]; exact k1
  · rw [hb.cell (p := ⟨w.heap.size, 2, none⟩) hsz]; exact k2
  · rw [hb.cell (p := ⟨w.heap.size, 3, none⟩) hsz]; exact k3
  · rw [hb.cell (p := ⟨w.heap.size, 4, none⟩) hsz]; exact k4
  · rw [hb.cell (p := ⟨w.heap.size, 5, none⟩) hsz]; exact k5
  · rw [hb.cell (p := ⟨w.heap.size, 6, none⟩) hsz]; exact k6
  · rw [hb.cell (p := ⟨w.heap.size, 7, none⟩) hsz]; exact k7

set_option maxHeartbeats 1600000 in
theorem ncl8_ok (md : ByteArray) (n d : Int) (b mx ini pr s : Nat) (w : World) (hmd : modeB md = true) (hn : 1 ≤ n) (hn2 : n ≤ 9223372036854775807) (hb1 : pctB b = true) (hb2 : hunB b = true) (hm : finB mx = true) (hi : finB ini = true) (hs : Ieee.double.add mx ini = some s) (hs2 : infB s = false) (hd : 0 < d) (hd2 : d ≤ 9223372036854775807) (hp : finB pr = true) :
    Calls Ybaf.prog 8 #[.agg #[.string md, .int .i64 n, .float .f64 b, .float .f64 mx, .float .f64 ini, .float .f64 0, .int .i64 d, .float .f64 pr]] w fun e w' =>
      ∃ g, e = .returned (.tuple #[.pointer (some ⟨g, 0, none⟩), .nilIface]) ∧ w'.heap[g]? = some (.cells (ledgerCells md n b mx ini d pr (floatOfInt .f64 n) (minutesOf d) (earnOf b n d)) 53 (0, 0)) ∧ Below w.heap.size w w' ∧ w.heap.size ≤ g := by
  have HA : Hid (modeB md = true ∧ pctB b = true ∧ hunB b = true ∧ finB mx = true ∧ finB ini = true ∧ Ieee.double.add mx ini = some s ∧ infB s = false ∧ finB pr = true ∧ Fin (Ieee.double.read b) 7) := ⟨hmd, hb1, hb2, hm, hi, hs, hs2, hp, pct_fin b hb1 hb2⟩
  clear hmd hb1 hb2 hm hi hs hs2 hp
  have hbu := build53 md n b mx ini d pr (floatOfInt .f64 n) (minutesOf d) (earnOf b n d)
  go_enter Ybaf.func8, Ybaf.ntmps8
  go_wp2_with (go_at_call 14; refine (val14_ok md n d b mx ini pr s _ HA.out.1 hn HA.out.2.1 HA.out.2.2.1 HA.out.2.2.2.1 HA.out.2.2.2.2.1 HA.out.2.2.2.2.2.1 HA.out.2.2.2.2.2.2.1 hd HA.out.2.2.2.2.2.2.2.1).mono ?_; rintro e w1 ⟨rfl, hb⟩; obtain ⟨k0, k1, k2, k3, k4, k5, k6, k7, hbel, hsz⟩ := box_kept hb; clear hb)
  generalize hB : w.heap.size = B at k0 k1 k2 k3 k4 k5 k6 k7 hbel hsz ⊢
  have HB : Hid (w.heap.size = B) := hB
  clear hB
  have HBel : Hid (Below B w w1) := hbel
  clear hbel
  go_region_held3 (fun w' => w'.cell? ⟨B, 0, none⟩ = some (.string md) ∧ w'.cell? ⟨B, 1, none⟩ = some (.int .i64 n) ∧ w'.cell? ⟨B, 2, none⟩ = some (.float .f64 b) ∧ w'.cell? ⟨B, 3, none⟩ = some (.float .f64 mx) ∧ w'.cell? ⟨B, 4, none⟩ = some (.float .f64 ini) ∧ w'.cell? ⟨B, 5, none⟩ = some (.float .f64 0) ∧ w'.cell? ⟨B, 6, none⟩ = some (.int .i64 d) ∧ w'.cell? ⟨B, 7, none⟩ = some (.float .f64 pr)) (go_keep)
    ((first
      | (go_at_call 12; refine (minutes12 _ hd hd2 _).mono ?_; rintro e w2 ⟨rfl, rfl⟩)
      | (go_at_call 13; refine (credits13 _ _ _ HA.out.2.2.2.2.2.2.2.2 (by omega) hn2 hd hd2 _).mono ?_; rintro e w2 ⟨rfl, rfl⟩)))
  go_wp2
  go_ret2
  refine ⟨w1.heap.size, rfl, heap_alloc_new w1 _, ?_, ?_⟩
  · rw [HB.out]; exact (HBel.out.alloc (by omega) _).drew
  · have := HB.out; omega
end Go.Proofs.YbulkbcgsFmt
