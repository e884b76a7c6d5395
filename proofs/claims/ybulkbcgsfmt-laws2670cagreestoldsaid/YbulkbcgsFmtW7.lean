import Derived.Test.YbulkbcgsFmtW6
namespace Go.Proofs.YbulkbcgsFmt
open Go.RowKit
set_option linter.unusedSimpArgs false
set_option linter.unusedVariables false
attribute [local go_sem ↓] Go.wp_at_zero Go.wp_at_succ
attribute [local go_sem] run_store_float

theorem self_fin (x : Nat) (k : Int) (h : Fin (Ieee.double.read x) k) : Ieee.double.order x x = some .eq := by
  obtain ⟨s, m, p, e, _⟩ := h
  exact order_self x (by rw [e]; rfl)
theorem self_num (x : Nat) (h : finB x = true) : Ieee.double.order x x = some .eq := by
  obtain ⟨s, m, p, e⟩ := num_fin x h
  exact order_self x (by rw [e]; rfl)

theorem chk_kept {w w1 : World} {c1 c2 c3 cs : Array Value} {g : Nat} (hb : Below (((w.alloc (.cells c1 24)).alloc (.cells c2 28)).alloc (.cells c3 33)).heap.size (((w.alloc (.cells c1 24)).alloc (.cells c2 28)).alloc (.cells c3 33)) w1)
    (hg : w.heap[g]? = some (.cells cs 53 (0, 0))) :
    (∀ i, w1.cell? ⟨w.heap.size, i, none⟩ = c1[i]?) ∧ (∀ i, w1.cell? ⟨w.heap.size + 1, i, none⟩ = c2[i]?) ∧ (∀ i, w1.cell? ⟨w.heap.size + 1 + 1, i, none⟩ = c3[i]?) ∧ (∀ i, w1.cell? ⟨g, i, none⟩ = cs[i]?) ∧
    Below w.heap.size w w1 ∧ w.heap.size + 1 + 1 < w1.heap.size := by
  have hs : (((w.alloc (.cells c1 24)).alloc (.cells c2 28)).alloc (.cells c3 33)).heap.size = w.heap.size + 1 + 1 + 1 := by simp
  have hgw := lt_of_block hg
  rw [hs] at hb
  have hsz := hb.size
  rw [hs] at hsz
  have e1 : w1.heap[w.heap.size]? = some (.cells c1 24 (0, 0)) := by
    rw [hb.block _ (by omega), Below.heap_alloc _ _ _ (by simp; omega), Below.heap_alloc _ _ _ (by simp)]; exact heap_alloc_new _ _
  have e2 : w1.heap[w.heap.size + 1]? = some (.cells c2 28 (0, 0)) := by
    rw [hb.block _ (by omega), Below.heap_alloc _ _ _ (by simp)]
    have := heap_alloc_new (w.alloc (.cells c1 24)) (.cells c2 28)
    simpa using this
  have e3 : w1.heap[w.heap.size + 1 + 1]? = some (.cells c3 33 (0, 0)) := by
    rw [hb.block _ (by omega)]
    have := heap_alloc_new ((w.alloc (.cells c1 24)).alloc (.cells c2 28)) (.cells c3 33)
    simpa using this
  have bel : Below w.heap.size w w1 := ((((Below.refl _ w).alloc (Nat.le_refl _) _).alloc (by simp) _).alloc (by simp; omega) _).trans (hb.mono (by omega))
  have e4 : w1.heap[g]? = some (.cells cs 53 (0, 0)) := by rw [bel.block g hgw]; exact hg
  exact ⟨fun i => by simp [World.cell?, e1], fun i => by simp [World.cell?, e2], fun i => by simp [World.cell?, e3], fun i => by simp [World.cell?, e4], bel, by omega⟩

theorem chk_new {w w2 w3 : World} {c1 c2 cs c4 : Array Value} {g : Nat} (e : w2.alloc (.cells c4 46) = w3)
    (cB : ∀ i, w2.cell? ⟨w.heap.size, i, none⟩ = c1[i]?) (cP : ∀ i, w2.cell? ⟨w.heap.size + 1, i, none⟩ = c2[i]?) (cG : ∀ i, w2.cell? ⟨g, i, none⟩ = cs[i]?)
    (hbw : Below w.heap.size w w2) (hsz : w.heap.size + 1 + 1 < w2.heap.size) (hg : g < w.heap.size) :
    (∀ i, w3.cell? ⟨w.heap.size, i, none⟩ = c1[i]?) ∧ (∀ i, w3.cell? ⟨w.heap.size + 1, i, none⟩ = c2[i]?) ∧ (∀ i, w3.cell? ⟨g, i, none⟩ = cs[i]?) ∧ (∀ i, w3.cell? ⟨w2.heap.size, i, none⟩ = c4[i]?) ∧ Below w.heap.size w w3 := by
  subst e
  have k : ∀ b i, b < w2.heap.size → (w2.alloc (.cells c4 46)).cell? ⟨b, i, none⟩ = w2.cell? ⟨b, i, none⟩ := fun b i hb => by
    simp only [World.cell?]; rw [Below.heap_alloc _ _ _ hb]
  have hn := heap_alloc_new w2 (.cells c4 46)
  exact ⟨fun i => by rw [k _ _ (by omega)]; exact cB i, fun i => by rw [k _ _ (by omega)]; exact cP i, fun i => by rw [k _ _ (by omega)]; exact cG i, fun i => by simp only [World.cell?, hn]; rfl, hbw.alloc (by omega) _⟩

theorem chk_drew {w w3 : World} {c1 c2 cs : Array Value} {a b g : Nat} (nq : Nat)
    (cB : ∀ i, w3.cell? ⟨a, i, none⟩ = c1[i]?) (cP : ∀ i, w3.cell? ⟨b, i, none⟩ = c2[i]?) (cG : ∀ i, w3.cell? ⟨g, i, none⟩ = cs[i]?) (hbw : Below w.heap.size w w3) :
    ∃ w4, w3.drewN nq = w4 ∧ (∀ i, w4.cell? ⟨a, i, none⟩ = c1[i]?) ∧ (∀ i, w4.cell? ⟨b, i, none⟩ = c2[i]?) ∧ (∀ i, w4.cell? ⟨g, i, none⟩ = cs[i]?) ∧ Below w.heap.size w w4 :=
  ⟨_, rfl, cB, cP, cG, ⟨hbw.os, hbw.tape, hbw.output, hbw.size, hbw.block⟩⟩

theorem minutes12' (d : Int) (h0 : 0 < d) (h1 : d ≤ 9223372036854775807) (w : World) : Calls Ybaf.prog 12 #[.int .i64 d] w fun e w' => e = .returned (.float .f64 (minutesOf d)) ∧ w' = w :=
  (minutes12 d h0 h1 w).mono fun e w' h => ⟨h.1, h.2.symm⟩
theorem credits13' (b : Nat) (n d : Int) (hb : Fin (Ieee.double.read b) 7) (hn0 : 0 ≤ n) (hn1 : n ≤ 9223372036854775807) (h0 : 0 < d) (h1 : d ≤ 9223372036854775807) (w : World) :
    Calls Ybaf.prog 13 #[.float .f64 b, .int .i64 n, .int .i64 d] w fun e w' => e = .returned (.float .f64 (earnOf b n d)) ∧ w' = w :=
  (credits13 b n d hb hn0 hn1 h0 h1 w).mono fun e w' h => ⟨h.1, h.2.symm⟩

set_option maxHeartbeats 1600000 in
theorem check7_ok (nm md : ByteArray) (n d tv : Int) (b mx ini pr price s : Nat) (pa : Option Addr) (pl pc g : Nat) (w : World) (hmd : modeB md = true) (hn : 1 ≤ n) (hn2 : n ≤ 9223372036854775807) (hb1 : pctB b = true) (hb2 : hunB b = true) (hm : finB mx = true) (hi : finB ini = true) (hs : Ieee.double.add mx ini = some s) (hs2 : infB s = false) (hd : 0 < d) (hd2 : d ≤ 9223372036854775807) (hp : finB pr = true)
    (hg : w.heap[g]? = some (.cells (ledgerCells md n b mx ini d pr (floatOfInt .f64 n) (minutesOf d) (earnOf b n d)) 53 (0, 0))) :
    Calls Ybaf.prog 7 #[.agg #[.string nm, .int .i64 n, .float .f64 b, .float .f64 mx, .float .f64 ini, .float .f64 price], .string md, .agg #[.int .i64 tv, .int .i64 d, .float .f64 pr, .slice pa pl pc], .agg #[.pointer (some ⟨g, 0, none⟩), .float .f64 9218868437227405312], .nilIface] w fun e w' =>
      e = .returned (.bool true) ∧ Below w.heap.size w w' := by
  have hfin := pct_fin b hb1 hb2
  obtain ⟨x1, y1, y2, fmin⟩ := minutes_facts d hd hd2
  obtain ⟨x2, x3, y3, y4, y5, nne⟩ := earn_facts b n d hfin (by omega) hn2 hd hd2
  clear y1 y2 y3 y4 y5 x1 x2 x3
  have o1 : FloatKind.f64.format.order (floatOfInt .f64 n) (floatOfInt .f64 n) = some .eq := self_fin _ _ ((fin_int n 63 (by omega) (by simp; omega) (by omega)))
  have o2 : FloatKind.f64.format.order (minutesOf d) (minutesOf d) = some .eq := self_fin _ _ fmin
  have o3 : FloatKind.f64.format.order (earnOf b n d) (earnOf b n d) = some .eq := order_self _ nne
  have o4 : FloatKind.f64.format.order ini ini = some .eq := self_num _ hi
  have o5 : FloatKind.f64.format.order 0 0 = some .eq := by decide
  have o6 : FloatKind.f64.format.order 9218868437227405312 9218868437227405311 = some .gt := by decide
  have hne := neq46 md n d b mx ini pr (self_fin _ _ hfin) (self_num _ hm) (self_num _ hi) (self_num _ hp)
  have he := eql51
  have HA : Hid (modeB md = true ∧ pctB b = true ∧ hunB b = true ∧ finB mx = true ∧ finB ini = true ∧ Ieee.double.add mx ini = some s ∧ infB s = false ∧ finB pr = true ∧ Fin (Ieee.double.read b) 7) := ⟨hmd, hb1, hb2, hm, hi, hs, hs2, hp, hfin⟩
  clear hmd hb1 hb2 hm hi hs hs2 hp hfin fmin nne
  have HG : Hid (w.heap[g]? = some (.cells (ledgerCells md n b mx ini d pr (floatOfInt .f64 n) (minutesOf d) (earnOf b n d)) 53 (0, 0))) := hg
  have hgw := lt_of_block hg
  clear hg
  go_enter Ybaf.func7, Ybaf.ntmps7
  go_wp2_with (first
    | (go_at_call 10; refine (cok10_ok nm md n d tv b mx ini pr price s pa pl pc _ HA.out.1 hn HA.out.2.1 HA.out.2.2.1 HA.out.2.2.2.1 HA.out.2.2.2.2.1 HA.out.2.2.2.2.2.1 HA.out.2.2.2.2.2.2.1 hd HA.out.2.2.2.2.2.2.2.1).mono ?_; rintro e w1 ⟨rfl, hb⟩; obtain ⟨cB, cP, cR, cG, hbw, hsz⟩ := chk_kept hb HG.out; clear hb; simp only [ledgerCells] at cG)
    | (go_at_call 11; refine (isInf11 _ _).mono ?_; rintro e w2 ⟨rfl, hw⟩; subst hw))
  have m12 := minutes12' d hd hd2
  have m13 := credits13' b n d HA.out.2.2.2.2.2.2.2.2 (by omega) hn2 hd hd2
  clear cR
  generalize e3 : w2.alloc _ = w3
  obtain ⟨dB, dP, dG, dN, hb3⟩ := chk_new e3 cB cP cG hbw hsz hgw
  clear cB cP cG
  go_quiet (fail)
  obtain ⟨w4, e4, dB, dP, dG, hb3⟩ := chk_drew nq dB dP dG hb3
  rw [e4]
  clear e4
  go_wp2
  go_quiet ((go_at_call 12; exact Calls.quiet_of_same (m12 _)))
  obtain ⟨w4, e4, dB, dP, dG, hb3⟩ := chk_drew nq dB dP dG hb3
  rw [e4]
  clear e4
  go_wp2
  go_quiet ((go_at_call 13; exact Calls.quiet_of_same (m13 _)))
  obtain ⟨w4, e4, dB, dP, dG, hb3⟩ := chk_drew nq dB dP dG hb3
  rw [e4]
  clear e4
  go_wp2
  go_quiet (fail)
  obtain ⟨w4, e4, dB, dP, dG, hb3⟩ := chk_drew nq dB dP dG hb3
  rw [e4]
  clear e4
  go_wp2
  go_ret
  exact ⟨rfl, hb3⟩
end Go.Proofs.YbulkbcgsFmt
