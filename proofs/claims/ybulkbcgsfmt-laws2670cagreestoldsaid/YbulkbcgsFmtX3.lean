import Derived.Test.YbulkbcgsFmtX2
namespace Go.Proofs.YbulkbcgsFmt
open Go.RowKit
set_option linter.unusedSimpArgs false
set_option linter.unusedVariables false
attribute [local go_sem ↓] Go.wp_at_zero Go.wp_at_succ
attribute [local go_sem] run_store_float

set_option maxHeartbeats 1600000 in
theorem ncl8_bad (md : ByteArray) (n d : Int) (b mx ini pr : Nat) (w : World) (h : ¬ (modeB md = true ∧ OkInst n b mx ini ∧ OkRun d pr)) :
    Calls Ybaf.prog 8 #[.agg #[.string md, .int .i64 n, .float .f64 b, .float .f64 mx, .float .f64 ini, .float .f64 0, .int .i64 d, .float .f64 pr]] w fun e w' => ∃ t v, e = .returned (.tuple #[.pointer none, .iface t v]) ∧ Below w.heap.size w w' := by
  have H : Hid (¬ (modeB md = true ∧ OkInst n b mx ini ∧ OkRun d pr)) := h
  clear h
  go_enter Ybaf.func8, Ybaf.ntmps8
  go_wp2_with (go_at_call 14; refine (val14_bad md n d b mx ini pr _ H.out).mono ?_; rintro e w1 ⟨t, v, rfl, hb1⟩)
  exact bodyPost_ret (v := .tuple #[.pointer none, .iface t v]) (by simp [results, Ybaf.results8, go_sem]) rfl ⟨_, _, rfl, ((Below.refl _ w).alloc (Nat.le_refl _) _).trans (hb1.mono (by simp))⟩

theorem bad_box {w w1 : World} {o1 o2 : Obj} (hb : Below (((w.alloc o1).alloc o2).alloc (.cells #[.pointer none, .float .f64 0] 33)).heap.size (((w.alloc o1).alloc o2).alloc (.cells #[.pointer none, .float .f64 0] 33)) w1) :
    w1.cell? ⟨w.heap.size + 1 + 1, 0, none⟩ = some (.pointer none) ∧ w1.cell? ⟨w.heap.size + 1 + 1, 1, none⟩ = some (.float .f64 0) ∧ w1.frozen? ⟨w.heap.size + 1 + 1, 0, none⟩ = false ∧ w1.frozen? ⟨w.heap.size + 1 + 1, 1, none⟩ = false ∧
    Below w.heap.size w w1 ∧ w.heap.size + 1 + 1 < w1.heap.size := by
  have hs : (((w.alloc o1).alloc o2).alloc (.cells #[.pointer none, .float .f64 0] 33)).heap.size = w.heap.size + 1 + 1 + 1 := by simp
  rw [hs] at hb
  have hbk : w1.heap[w.heap.size + 1 + 1]? = some (.cells #[.pointer none, .float .f64 0] 33 (0, 0)) := by
    rw [hb.block _ (by omega)]
    have := heap_alloc_new ((w.alloc o1).alloc o2) (.cells #[.pointer none, .float .f64 0] 33)
    simpa using this
  have hsz := hb.size
  rw [hs] at hsz
  refine ⟨by simp [World.cell?, hbk], by simp [World.cell?, hbk], by simp [World.frozen?, hbk], by simp [World.frozen?, hbk], ?_, by omega⟩
  exact ((((Below.refl _ w).alloc (Nat.le_refl _) _).alloc (by simp) _).alloc (by simp; omega) _).trans (hb.mono (by omega))

set_option maxHeartbeats 1600000 in
theorem nmr6_bad (nm md : ByteArray) (n d tv : Int) (b mx ini pr price : Nat) (pa : Option Addr) (pl pc : Nat) (w : World) (h : ¬ (modeB md = true ∧ OkInst n b mx ini ∧ OkRun d pr)) :
    Calls Ybaf.prog 6 #[.agg #[.string nm, .int .i64 n, .float .f64 b, .float .f64 mx, .float .f64 ini, .float .f64 price], .string md, .agg #[.int .i64 tv, .int .i64 d, .float .f64 pr, .slice pa pl pc]] w fun e w' =>
      ∃ t v, e = .returned (.tuple #[.agg #[.pointer none, .float .f64 0], .iface t v]) ∧ Below w.heap.size w w' := by
  have H : Hid (¬ (modeB md = true ∧ OkInst n b mx ini ∧ OkRun d pr)) := h
  clear h
  go_enter Ybaf.func6, Ybaf.ntmps6
  go_wp2_with (go_at_call 8; refine (ncl8_bad md n d b mx ini pr _ H.out).mono ?_; rintro e w1 ⟨t, v, rfl, hb⟩; obtain ⟨z0, z1, f0, f1, hbw, hsz⟩ := bad_box hb; have HG : Hid (Below w.heap.size w w1) := hbw; clear hb hbw)
  have q0 : ((w1.setCell ⟨w.heap.size + 1 + 1, 0, none⟩ (.pointer none)).setCell ⟨w.heap.size + 1 + 1, 1, none⟩ (.float .f64 0)).cell? ⟨w.heap.size + 1 + 1, 0, none⟩ = some (.pointer none) := by go_simp
  have q1 : ((w1.setCell ⟨w.heap.size + 1 + 1, 0, none⟩ (.pointer none)).setCell ⟨w.heap.size + 1 + 1, 1, none⟩ (.float .f64 0)).cell? ⟨w.heap.size + 1 + 1, 1, none⟩ = some (.float .f64 0) := by go_simp
  have hB2 : Below w.heap.size w ((w1.setCell ⟨w.heap.size + 1 + 1, 0, none⟩ (.pointer none)).setCell ⟨w.heap.size + 1 + 1, 1, none⟩ (.float .f64 0)) := (HG.out.setCell (by simp; omega) _).setCell (by simp; omega) _
  generalize (w1.setCell ⟨w.heap.size + 1 + 1, 0, none⟩ (.pointer none)).setCell ⟨w.heap.size + 1 + 1, 1, none⟩ (.float .f64 0) = W at q0 q1 hB2 ⊢
  exact bodyPost_ret (v := .tuple #[.agg #[.pointer none, .float .f64 0], .iface t v]) (by simp [results, Ybaf.results6, go_sem, q0, q1]) rfl ⟨t, v, rfl, hB2⟩

/-- 'zzs2670cok' out of range: false -/
theorem cok10_mode (nm md : ByteArray) (n d tv : Int) (b mx ini pr price : Nat) (pa : Option Addr) (pl pc : Nat) (w : World) (h0 : (md.toList == [115, 116, 97, 110, 100, 97, 114, 100]) = false) (h1 : (md.toList == [117, 110, 108, 105, 109, 105, 116, 101, 100]) = false) :
    Calls Ybaf.prog 10 #[.agg #[.string nm, .int .i64 n, .float .f64 b, .float .f64 mx, .float .f64 ini, .float .f64 price], .string md, .agg #[.int .i64 tv, .int .i64 d, .float .f64 pr, .slice pa pl pc]] w fun e w' =>
      e = .returned (.bool false) ∧ Below w.heap.size w w' := by
  go_enter Ybaf.func10, Ybaf.ntmps10
  go_wp2
  go_ret
  exact ⟨rfl, ((Below.refl _ w).alloc (Nat.le_refl _) _).alloc (by simp) _⟩

/-- the guards of 'zzs2670cok' behind the mode, in one: the first that fails -/
inductive Bad (n d : Int) (b mx ini pr : Nat) : Prop
  | cpu (h : n < 1)
  | pct (h1 : 1 ≤ n) (h : pctB b = false)
  | hun (h1 : 1 ≤ n) (h2 : pctB b = true) (h : hunB b = false)
  | max (h1 : 1 ≤ n) (h2 : pctB b = true) (h3 : hunB b = true) (h : finB mx = false)
  | ini (h1 : 1 ≤ n) (h2 : pctB b = true) (h3 : hunB b = true) (h4 : finB mx = true) (h : finB ini = false)
  | sum (h1 : 1 ≤ n) (h2 : pctB b = true) (h3 : hunB b = true) (h4 : finB mx = true) (h5 : finB ini = true) (s : Nat) (hs : Ieee.double.add mx ini = some s) (h : infB s = true)
  | step (h1 : 1 ≤ n) (h2 : pctB b = true) (h3 : hunB b = true) (h4 : finB mx = true) (h5 : finB ini = true) (s : Nat) (hs : Ieee.double.add mx ini = some s) (h6 : infB s = false) (h : d ≤ 0)
  | price (h1 : 1 ≤ n) (h2 : pctB b = true) (h3 : hunB b = true) (h4 : finB mx = true) (h5 : finB ini = true) (s : Nat) (hs : Ieee.double.add mx ini = some s) (h6 : infB s = false) (h7 : 0 < d) (h : finB pr = false)

theorem bad_of {n d : Int} {b mx ini pr : Nat} (h : ¬ (OkInst n b mx ini ∧ OkRun d pr)) : Bad n d b mx ini pr := by
  by_cases h1 : 1 ≤ n
  · cases h2 : pctB b
    · exact .pct h1 h2
    · cases h3 : hunB b
      · exact .hun h1 h2 h3
      · cases h4 : finB mx
        · exact .max h1 h2 h3 h4
        · cases h5 : finB ini
          · exact .ini h1 h2 h3 h4 h5
          · obtain ⟨s, hs⟩ := sum_fin mx ini h4 h5
            cases h6 : infB s
            · by_cases h7 : 0 < d
              · cases h8 : finB pr
                · exact .price h1 h2 h3 h4 h5 s hs h6 h7 h8
                · exact absurd ⟨⟨h1, h2, h3, h4, h5, s, hs, h6⟩, h7, h8⟩ h
              · exact .step h1 h2 h3 h4 h5 s hs h6 (by omega)
            · exact .sum h1 h2 h3 h4 h5 s hs h6
  · exact .cpu (by omega)

set_option maxHeartbeats 3200000 in
theorem cok10_bad_std (nm md : ByteArray) (n d tv : Int) (b mx ini pr price : Nat) (pa : Option Addr) (pl pc : Nat) (w : World) (g0 : (md.toList == [115, 116, 97, 110, 100, 97, 114, 100]) = true) (h : Bad n d b mx ini pr) :
    Calls Ybaf.prog 10 #[.agg #[.string nm, .int .i64 n, .float .f64 b, .float .f64 mx, .float .f64 ini, .float .f64 price], .string md, .agg #[.int .i64 tv, .int .i64 d, .float .f64 pr, .slice pa pl pc]] w fun e w' =>
      e = .returned (.bool false) ∧ Below w.heap.size w w' := by
  cases h with
  | cpu h =>
    go_enter Ybaf.func10, Ybaf.ntmps10
    go_wp2_with (go_at_call 16; refine (cfin16 _ _).mono ?_; rintro e w' ⟨rfl, hw⟩; cases hw)
    go_ret
    exact ⟨rfl, ((Below.refl _ w).alloc (Nat.le_refl _) _).alloc (by simp) _⟩
  | pct h1 h =>
    unfold pctB at h
    go_enter Ybaf.func10, Ybaf.ntmps10
    go_wp2_with (go_at_call 16; refine (cfin16 _ _).mono ?_; rintro e w' ⟨rfl, hw⟩; cases hw)
    go_ret
    exact ⟨rfl, ((Below.refl _ w).alloc (Nat.le_refl _) _).alloc (by simp) _⟩
  | hun h1 h2 h =>
    unfold pctB at h2
    unfold hunB at h
    go_enter Ybaf.func10, Ybaf.ntmps10
    go_wp2_with (go_at_call 16; refine (cfin16 _ _).mono ?_; rintro e w' ⟨rfl, hw⟩; cases hw)
    go_ret
    exact ⟨rfl, ((Below.refl _ w).alloc (Nat.le_refl _) _).alloc (by simp) _⟩
  | max h1 h2 h3 h =>
    unfold pctB at h2
    unfold hunB at h3
    go_enter Ybaf.func10, Ybaf.ntmps10
    go_wp2_with (go_at_call 16; refine (cfin16 _ _).mono ?_; rintro e w' ⟨rfl, hw⟩; cases hw)
    go_ret
    exact ⟨rfl, ((Below.refl _ w).alloc (Nat.le_refl _) _).alloc (by simp) _⟩
  | ini h1 h2 h3 h4 h =>
    unfold pctB at h2
    unfold hunB at h3
    go_enter Ybaf.func10, Ybaf.ntmps10
    go_wp2_with (go_at_call 16; refine (cfin16 _ _).mono ?_; rintro e w' ⟨rfl, hw⟩; cases hw)
    go_ret
    exact ⟨rfl, ((Below.refl _ w).alloc (Nat.le_refl _) _).alloc (by simp) _⟩
  | sum h1 h2 h3 h4 h5 s hs h =>
    unfold pctB at h2
    unfold hunB at h3
    unfold infB at h
    have r1 := fun w => run_float_arith (P := Ybaf.prog) w .add 22 .f64 _ _ s hs
    clear hs
    go_enter Ybaf.func10, Ybaf.ntmps10
    go_wp2_with (go_at_call 16; refine (cfin16 _ _).mono ?_; rintro e w' ⟨rfl, hw⟩; cases hw)
    go_ret
    exact ⟨rfl, ((Below.refl _ w).alloc (Nat.le_refl _) _).alloc (by simp) _⟩
  | step h1 h2 h3 h4 h5 s hs h6 h =>
    unfold pctB at h2
    unfold hunB at h3
    unfold infB at h6
    have r1 := fun w => run_float_arith (P := Ybaf.prog) w .add 22 .f64 _ _ s hs
    clear hs
    go_enter Ybaf.func10, Ybaf.ntmps10
    go_wp2_with (go_at_call 16; refine (cfin16 _ _).mono ?_; rintro e w' ⟨rfl, hw⟩; cases hw)
    go_ret
    exact ⟨rfl, ((Below.refl _ w).alloc (Nat.le_refl _) _).alloc (by simp) _⟩
  | price h1 h2 h3 h4 h5 s hs h6 h7 h =>
    unfold pctB at h2
    unfold hunB at h3
    unfold infB at h6
    have r1 := fun w => run_float_arith (P := Ybaf.prog) w .add 22 .f64 _ _ s hs
    clear hs
    go_enter Ybaf.func10, Ybaf.ntmps10
    go_wp2_with (go_at_call 16; refine (cfin16 _ _).mono ?_; rintro e w' ⟨rfl, hw⟩; cases hw)
    go_ret
    exact ⟨rfl, ((Below.refl _ w).alloc (Nat.le_refl _) _).alloc (by simp) _⟩

set_option maxHeartbeats 3200000 in
theorem cok10_bad_unl (nm md : ByteArray) (n d tv : Int) (b mx ini pr price : Nat) (pa : Option Addr) (pl pc : Nat) (w : World) (g0 : (md.toList == [115, 116, 97, 110, 100, 97, 114, 100]) = false) (g1 : (md.toList == [117, 110, 108, 105, 109, 105, 116, 101, 100]) = true) (h : Bad n d b mx ini pr) :
    Calls Ybaf.prog 10 #[.agg #[.string nm, .int .i64 n, .float .f64 b, .float .f64 mx, .float .f64 ini, .float .f64 price], .string md, .agg #[.int .i64 tv, .int .i64 d, .float .f64 pr, .slice pa pl pc]] w fun e w' =>
      e = .returned (.bool false) ∧ Below w.heap.size w w' := by
  cases h with
  | cpu h =>
    go_enter Ybaf.func10, Ybaf.ntmps10
    go_wp2_with (go_at_call 16; refine (cfin16 _ _).mono ?_; rintro e w' ⟨rfl, hw⟩; cases hw)
    go_ret
    exact ⟨rfl, ((Below.refl _ w).alloc (Nat.le_refl _) _).alloc (by simp) _⟩
  | pct h1 h =>
    unfold pctB at h
    go_enter Ybaf.func10, Ybaf.ntmps10
    go_wp2_with (go_at_call 16; refine (cfin16 _ _).mono ?_; rintro e w' ⟨rfl, hw⟩; cases hw)
    go_ret
    exact ⟨rfl, ((Below.refl _ w).alloc (Nat.le_refl _) _).alloc (by simp) _⟩
  | hun h1 h2 h =>
    unfold pctB at h2
    unfold hunB at h
    go_enter Ybaf.func10, Ybaf.ntmps10
    go_wp2_with (go_at_call 16; refine (cfin16 _ _).mono ?_; rintro e w' ⟨rfl, hw⟩; cases hw)
    go_ret
    exact ⟨rfl, ((Below.refl _ w).alloc (Nat.le_refl _) _).alloc (by simp) _⟩
  | max h1 h2 h3 h =>
    unfold pctB at h2
    unfold hunB at h3
    go_enter Ybaf.func10, Ybaf.ntmps10
    go_wp2_with (go_at_call 16; refine (cfin16 _ _).mono ?_; rintro e w' ⟨rfl, hw⟩; cases hw)
    go_ret
    exact ⟨rfl, ((Below.refl _ w).alloc (Nat.le_refl _) _).alloc (by simp) _⟩
  | ini h1 h2 h3 h4 h =>
    unfold pctB at h2
    unfold hunB at h3
    go_enter Ybaf.func10, Ybaf.ntmps10
    go_wp2_with (go_at_call 16; refine (cfin16 _ _).mono ?_; rintro e w' ⟨rfl, hw⟩; cases hw)
    go_ret
    exact ⟨rfl, ((Below.refl _ w).alloc (Nat.le_refl _) _).alloc (by simp) _⟩
  | sum h1 h2 h3 h4 h5 s hs h =>
    unfold pctB at h2
    unfold hunB at h3
    unfold infB at h
    have r1 := fun w => run_float_arith (P := Ybaf.prog) w .add 22 .f64 _ _ s hs
    clear hs
    go_enter Ybaf.func10, Ybaf.ntmps10
    go_wp2_with (go_at_call 16; refine (cfin16 _ _).mono ?_; rintro e w' ⟨rfl, hw⟩; cases hw)
    go_ret
    exact ⟨rfl, ((Below.refl _ w).alloc (Nat.le_refl _) _).alloc (by simp) _⟩
  | step h1 h2 h3 h4 h5 s hs h6 h =>
    unfold pctB at h2
    unfold hunB at h3
    unfold infB at h6
    have r1 := fun w => run_float_arith (P := Ybaf.prog) w .add 22 .f64 _ _ s hs
    clear hs
    go_enter Ybaf.func10, Ybaf.ntmps10
    go_wp2_with (go_at_call 16; refine (cfin16 _ _).mono ?_; rintro e w' ⟨rfl, hw⟩; cases hw)
    go_ret
    exact ⟨rfl, ((Below.refl _ w).alloc (Nat.le_refl _) _).alloc (by simp) _⟩
  | price h1 h2 h3 h4 h5 s hs h6 h7 h =>
    unfold pctB at h2
    unfold hunB at h3
    unfold infB at h6
    have r1 := fun w => run_float_arith (P := Ybaf.prog) w .add 22 .f64 _ _ s hs
    clear hs
    go_enter Ybaf.func10, Ybaf.ntmps10
    go_wp2_with (go_at_call 16; refine (cfin16 _ _).mono ?_; rintro e w' ⟨rfl, hw⟩; cases hw)
    go_ret
    exact ⟨rfl, ((Below.refl _ w).alloc (Nat.le_refl _) _).alloc (by simp) _⟩

theorem cok10_bad (nm md : ByteArray) (n d tv : Int) (b mx ini pr price : Nat) (pa : Option Addr) (pl pc : Nat) (w : World) (h : ¬ (modeB md = true ∧ OkInst n b mx ini ∧ OkRun d pr)) :
    Calls Ybaf.prog 10 #[.agg #[.string nm, .int .i64 n, .float .f64 b, .float .f64 mx, .float .f64 ini, .float .f64 price], .string md, .agg #[.int .i64 tv, .int .i64 d, .float .f64 pr, .slice pa pl pc]] w fun e w' =>
      e = .returned (.bool false) ∧ Below w.heap.size w w' := by
  cases g0 : (md.toList == [115, 116, 97, 110, 100, 97, 114, 100])
  · cases g1 : (md.toList == [117, 110, 108, 105, 109, 105, 116, 101, 100])
    · exact cok10_mode nm md n d tv b mx ini pr price pa pl pc w g0 g1
    · exact cok10_bad_unl nm md n d tv b mx ini pr price pa pl pc w g0 g1 (bad_of fun hh => h ⟨by rw [modeB, g0, g1]; rfl, hh⟩)
  · exact cok10_bad_std nm md n d tv b mx ini pr price pa pl pc w g0 (bad_of fun hh => h ⟨by rw [modeB, g0]; rfl, hh⟩)

set_option maxHeartbeats 1600000 in
theorem check7_bad (nm md : ByteArray) (n d tv : Int) (b mx ini pr price : Nat) (pa : Option Addr) (pl pc : Nat) (t : TypeId) (v : Value) (w : World) (h : ¬ (modeB md = true ∧ OkInst n b mx ini ∧ OkRun d pr)) :
    Calls Ybaf.prog 7 #[.agg #[.string nm, .int .i64 n, .float .f64 b, .float .f64 mx, .float .f64 ini, .float .f64 price], .string md, .agg #[.int .i64 tv, .int .i64 d, .float .f64 pr, .slice pa pl pc], .agg #[.pointer none, .float .f64 0], .iface t v] w fun e w' =>
      e = .returned (.bool true) ∧ Below w.heap.size w w' := by
  have H : Hid (¬ (modeB md = true ∧ OkInst n b mx ini ∧ OkRun d pr)) := h
  clear h
  have o5 : FloatKind.f64.format.order 0 0 = some .eq := by decide
  go_enter Ybaf.func7, Ybaf.ntmps7
  go_wp2_with (go_at_call 10; refine (cok10_bad nm md n d tv b mx ini pr price pa pl pc _ H.out).mono ?_; rintro e w1 ⟨rfl, hb⟩; obtain ⟨z0, z1, f0, f1, hbw, hsz⟩ := bad_box hb; have HG : Hid (Below w.heap.size w w1) := hbw; clear hb hbw)
  go_ret
  exact ⟨rfl, HG.out⟩
end Go.Proofs.YbulkbcgsFmt
