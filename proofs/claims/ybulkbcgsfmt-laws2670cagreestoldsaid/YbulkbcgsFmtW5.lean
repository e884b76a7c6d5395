import Derived.Test.YbulkbcgsFmtW4
namespace Go.Proofs.YbulkbcgsFmt
open Go.RowKit
set_option linter.unusedSimpArgs false
set_option linter.unusedVariables false
attribute [local go_sem ↓] Go.wp_at_zero Go.wp_at_succ
attribute [local go_sem] run_store_float

theorem run_box {w w1 : World} {o1 o2 : Obj} {g : Nat} {cs : Array Value} (hb : Below (((w.alloc o1).alloc o2).alloc (.cells #[.pointer none, .float .f64 0] 33)).heap.size (((w.alloc o1).alloc o2).alloc (.cells #[.pointer none, .float .f64 0] 33)) w1)
    (hge : (((w.alloc o1).alloc o2).alloc (.cells #[.pointer none, .float .f64 0] 33)).heap.size ≤ g) (hg : w1.heap[g]? = some (.cells cs 53 (0, 0))) :
    w1.cell? ⟨w.heap.size + 1 + 1, 0, none⟩ = some (.pointer none) ∧ w1.cell? ⟨w.heap.size + 1 + 1, 1, none⟩ = some (.float .f64 0) ∧ w1.frozen? ⟨w.heap.size + 1 + 1, 0, none⟩ = false ∧ w1.frozen? ⟨w.heap.size + 1 + 1, 1, none⟩ = false ∧
    Below w.heap.size w w1 ∧ w.heap.size + 1 + 1 < g ∧ w.heap.size + 1 + 1 < w1.heap.size := by
  have hs : (((w.alloc o1).alloc o2).alloc (.cells #[.pointer none, .float .f64 0] 33)).heap.size = w.heap.size + 1 + 1 + 1 := by simp
  rw [hs] at hge hb
  have hbk : w1.heap[w.heap.size + 1 + 1]? = some (.cells #[.pointer none, .float .f64 0] 33 (0, 0)) := by
    rw [hb.block _ (by omega)]
    have := heap_alloc_new ((w.alloc o1).alloc o2) (.cells #[.pointer none, .float .f64 0] 33)
    simpa using this
  have hsz := hb.size
  rw [hs] at hsz
  refine ⟨by simp [World.cell?, hbk], by simp [World.cell?, hbk], by simp [World.frozen?, hbk], by simp [World.frozen?, hbk], ?_, by omega, by omega⟩
  exact ((((Below.refl _ w).alloc (Nat.le_refl _) _).alloc (by simp) _).alloc (by simp; omega) _).trans (hb.mono (by omega))

set_option maxHeartbeats 1600000 in
theorem nmr6_ok (nm md : ByteArray) (n d tv : Int) (b mx ini pr price s : Nat) (pa : Option Addr) (pl pc : Nat) (w : World) (hmd : modeB md = true) (hn : 1 ≤ n) (hn2 : n ≤ 9223372036854775807) (hb1 : pctB b = true) (hb2 : hunB b = true) (hm : finB mx = true) (hi : finB ini = true) (hs : Ieee.double.add mx ini = some s) (hs2 : infB s = false) (hd : 0 < d) (hd2 : d ≤ 9223372036854775807) (hp : finB pr = true) :
    Calls Ybaf.prog 6 #[.agg #[.string nm, .int .i64 n, .float .f64 b, .float .f64 mx, .float .f64 ini, .float .f64 price], .string md, .agg #[.int .i64 tv, .int .i64 d, .float .f64 pr, .slice pa pl pc]] w fun e w' =>
      ∃ g, e = .returned (.tuple #[.agg #[.pointer (some ⟨g, 0, none⟩), .float .f64 9218868437227405312], .nilIface]) ∧ w'.heap[g]? = some (.cells (ledgerCells md n b mx ini d pr (floatOfInt .f64 n) (minutesOf d) (earnOf b n d)) 53 (0, 0)) ∧ Below w.heap.size w w' ∧ w.heap.size ≤ g := by
  have HA : Hid (modeB md = true ∧ pctB b = true ∧ hunB b = true ∧ finB mx = true ∧ finB ini = true ∧ Ieee.double.add mx ini = some s ∧ infB s = false ∧ finB pr = true) := ⟨hmd, hb1, hb2, hm, hi, hs, hs2, hp⟩
  clear hmd hb1 hb2 hm hi hs hs2 hp
  go_enter Ybaf.func6, Ybaf.ntmps6
  go_wp2_with (first
    | (go_at_call 8; refine (ncl8_ok md n d b mx ini pr s _ HA.out.1 hn hn2 HA.out.2.1 HA.out.2.2.1 HA.out.2.2.2.1 HA.out.2.2.2.2.1 HA.out.2.2.2.2.2.1 HA.out.2.2.2.2.2.2.1 hd hd2 HA.out.2.2.2.2.2.2.2).mono ?_; rintro e w1 ⟨g, rfl, hg, hb, hge⟩; obtain ⟨z0, z1, f0, f1, hbw, hg2, hsz⟩ := run_box hb hge hg; have HG : Hid (w1.heap[g]? = some (.cells (ledgerCells md n b mx ini d pr (floatOfInt .f64 n) (minutesOf d) (earnOf b n d)) 53 (0, 0)) ∧ Below w.heap.size w w1) := ⟨hg, hbw⟩; clear hg hb hge hbw)
    | (go_at_call 9; refine (inf9 _).mono ?_; rintro e w2 ⟨rfl, hw⟩; subst hw))
  have q0 : ((w2.setCell ⟨w.heap.size + 1 + 1, 0, none⟩ (.pointer (some ⟨g, 0, none⟩))).setCell ⟨w.heap.size + 1 + 1, 1, none⟩ (.float .f64 9218868437227405312)).cell? ⟨w.heap.size + 1 + 1, 0, none⟩ = some (.pointer (some ⟨g, 0, none⟩)) := by go_simp
  have q1 : ((w2.setCell ⟨w.heap.size + 1 + 1, 0, none⟩ (.pointer (some ⟨g, 0, none⟩))).setCell ⟨w.heap.size + 1 + 1, 1, none⟩ (.float .f64 9218868437227405312)).cell? ⟨w.heap.size + 1 + 1, 1, none⟩ = some (.float .f64 9218868437227405312) := by go_simp
  have hF : ((w2.setCell ⟨w.heap.size + 1 + 1, 0, none⟩ (.pointer (some ⟨g, 0, none⟩))).setCell ⟨w.heap.size + 1 + 1, 1, none⟩ (.float .f64 9218868437227405312)).heap[g]? = some (.cells (ledgerCells md n b mx ini d pr (floatOfInt .f64 n) (minutesOf d) (earnOf b n d)) 53 (0, 0)) := by
    rw [Below.heap_setCell _ _ _ _ (by simp; omega), Below.heap_setCell _ _ _ _ (by simp; omega)]; exact HG.out.1
  have hB2 : Below w.heap.size w ((w2.setCell ⟨w.heap.size + 1 + 1, 0, none⟩ (.pointer (some ⟨g, 0, none⟩))).setCell ⟨w.heap.size + 1 + 1, 1, none⟩ (.float .f64 9218868437227405312)) := (HG.out.2.setCell (by simp; omega) _).setCell (by simp; omega) _
  generalize (w2.setCell ⟨w.heap.size + 1 + 1, 0, none⟩ (.pointer (some ⟨g, 0, none⟩))).setCell ⟨w.heap.size + 1 + 1, 1, none⟩ (.float .f64 9218868437227405312) = W at q0 q1 hF hB2 ⊢
  exact bodyPost_ret (v := .tuple #[.agg #[.pointer (some ⟨g, 0, none⟩), .float .f64 9218868437227405312], .nilIface]) (by simp [results, Ybaf.results6, go_sem, q0, q1]) rfl ⟨g, rfl, hF, hB2, by omega⟩
end Go.Proofs.YbulkbcgsFmt
