import Derived.Test.YbulkbcgsFmtW9
import Derived.Stop.CallBack
import Derived.Stop.IfaceNil
namespace Go.Proofs.YbulkbcgsFmt
open Go.RowKit
open Go.Extern.Stop Go.Stop Go.Extern
set_option linter.unusedSimpArgs false
set_option linter.unusedVariables false
attribute [local go_sem ↓] Go.wp_at_zero Go.wp_at_succ
attribute [local go_sem] run_store_float

theorem call24 (args : Array Value) (w : World) : (callFunc 24 args).run Ybaf.prog w = ((FmtStop.sprintf #[9, 102] #[9] args).run Ybaf.prog w).andThen fun v w' => .ok (.value v) w' :=
  run_callFunc_extern Ybaf.func24 (by kernel_rfl) (by kernel_rfl) (by kernel_rfl) (by kernel_rfl) args w

theorem fguard (name : String) (w : World) : (FmtStop.guard name).run Ybaf.prog w = .ok () w := by kernel_rfl

/-- "%s whose sum with the cap, %v, is finite", two operands -/
theorem fmtSum : FmtStop.printed? ⟨#[37, 115, 32, 119, 104, 111, 115, 101, 32, 115, 117, 109, 32, 119, 105, 116, 104, 32, 116, 104, 101, 32, 99, 97, 112, 44, 32, 37, 118, 44, 32, 105, 115, 32, 102, 105, 110, 105, 116, 101]⟩ 2 = some [(0, 115, false), (1, 118, false)] := by kernel_rfl
theorem fmtSumR (w : World) : (FmtDoors.printed ⟨#[37, 115, 32, 119, 104, 111, 115, 101, 32, 115, 117, 109, 32, 119, 105, 116, 104, 32, 116, 104, 101, 32, 99, 97, 112, 44, 32, 37, 118, 44, 32, 105, 115, 32, 102, 105, 110, 105, 116, 101]⟩ 2).run Ybaf.prog w = .ok [(0, 115, false), (1, 118, false)] w := by kernel_rfl
def shape9 : List UInt8 := [12, 6, 0, 0, 0, 0, 0, 0, 0, 115, 116, 114, 105, 110, 103]
def shape22 : List UInt8 := [11, 7, 0, 0, 0, 0, 0, 0, 0, 102, 108, 111, 97, 116, 54, 52]
theorem op9_115 (name : String) (x : ByteArray) (w : World) : (FmtStop.operand name false 115 false (.iface 9 (.string x))).run Ybaf.prog w = .ok (shape9, FmtStop.pack x.data.toList) w := by kernel_rfl
theorem op22_118 (name : String) (x : Nat) (w : World) : (FmtStop.operand name false 118 false (.iface 22 (.float .f64 x))).run Ybaf.prog w = .ok (shape22, Go.Extern.Stop.digits 8 x) w := by kernel_rfl
attribute [local go_sem] call24 fguard fmtSum fmtSumR op9_115 op22_118


set_option maxHeartbeats 1600000 in
theorem vi23_sum (n : Int) (b mx ini s : Nat) (w : World) (hn : 1 ≤ n) (hb1 : pctB b = true) (hb2 : hunB b = true) (hm : finB mx = true) (hi : finB ini = true) (hs : Ieee.double.add mx ini = some s) (hs2 : infB s = true) :
    Calls Ybaf.prog 23 #[.int .i64 n, .float .f64 b, .float .f64 mx, .float .f64 ini] w fun e w' => ∃ t v, e = .returned (.iface t v) ∧ Below w.heap.size w w' := by
  have r1 := fun w => run_float_arith (P := Ybaf.prog) w .add 22 .f64 _ _ s hs
  unfold pctB at hb1
  unfold hunB at hb2
  unfold infB at hs2
  clear hs
  go_enter Ybaf.func23, Ybaf.ntmps23
  go_wp2_with (first
    | (go_at_call 29; refine (fnn29 _ _).mono ?_; rintro e w' ⟨rfl, hw⟩; cases hw)
    | (go_at_call 11; refine (isInf11 _ _).mono ?_; rintro e w' ⟨rfl, hw⟩; cases hw))
  go_ret
  exact ⟨_, _, rfl, (((Below.refl _ w).alloc (Nat.le_refl _) _).drew).alloc (by simp) _⟩

set_option maxHeartbeats 1600000 in
theorem vi23_ini (n : Int) (b mx ini : Nat) (w : World) (hn : 1 ≤ n) (hb1 : pctB b = true) (hb2 : hunB b = true) (hm : finB mx = true) (hi : finB ini = false) :
    Calls Ybaf.prog 23 #[.int .i64 n, .float .f64 b, .float .f64 mx, .float .f64 ini] w fun e w' => ∃ t v, e = .returned (.iface t v) ∧ Below w.heap.size w w' := by
  unfold pctB at hb1
  unfold hunB at hb2
  go_enter Ybaf.func23, Ybaf.ntmps23
  go_wp2_with (go_at_call 29; refine (fnn29 _ _).mono ?_; rintro e w' ⟨rfl, hw⟩; cases hw)
  go_ret
  exact ⟨_, _, rfl, (Below.refl _ w).alloc (Nat.le_refl _) _⟩

set_option maxHeartbeats 1600000 in
theorem vi23_max (n : Int) (b mx ini : Nat) (w : World) (hn : 1 ≤ n) (hb1 : pctB b = true) (hb2 : hunB b = true) (hm : finB mx = false) :
    Calls Ybaf.prog 23 #[.int .i64 n, .float .f64 b, .float .f64 mx, .float .f64 ini] w fun e w' => ∃ t v, e = .returned (.iface t v) ∧ Below w.heap.size w w' := by
  unfold pctB at hb1
  unfold hunB at hb2
  go_enter Ybaf.func23, Ybaf.ntmps23
  go_wp2_with (go_at_call 29; refine (fnn29 _ _).mono ?_; rintro e w' ⟨rfl, hw⟩; cases hw)
  go_ret
  exact ⟨_, _, rfl, (Below.refl _ w).alloc (Nat.le_refl _) _⟩

set_option maxHeartbeats 1600000 in
theorem vi23_hun (n : Int) (b mx ini : Nat) (w : World) (hn : 1 ≤ n) (hb1 : pctB b = true) (hb2 : hunB b = false) :
    Calls Ybaf.prog 23 #[.int .i64 n, .float .f64 b, .float .f64 mx, .float .f64 ini] w fun e w' => ∃ t v, e = .returned (.iface t v) ∧ Below w.heap.size w w' := by
  unfold pctB at hb1
  unfold hunB at hb2
  go_enter Ybaf.func23, Ybaf.ntmps23
  go_wp2
  go_ret
  exact ⟨_, _, rfl, (Below.refl _ w).alloc (Nat.le_refl _) _⟩

set_option maxHeartbeats 1600000 in
theorem vi23_pct (n : Int) (b mx ini : Nat) (w : World) (hn : 1 ≤ n) (hb1 : pctB b = false) :
    Calls Ybaf.prog 23 #[.int .i64 n, .float .f64 b, .float .f64 mx, .float .f64 ini] w fun e w' => ∃ t v, e = .returned (.iface t v) ∧ Below w.heap.size w w' := by
  unfold pctB at hb1
  go_enter Ybaf.func23, Ybaf.ntmps23
  go_wp2
  go_ret
  exact ⟨_, _, rfl, (Below.refl _ w).alloc (Nat.le_refl _) _⟩

set_option maxHeartbeats 1600000 in
theorem vi23_cpu (n : Int) (b mx ini : Nat) (w : World) (hn : n < 1) :
    Calls Ybaf.prog 23 #[.int .i64 n, .float .f64 b, .float .f64 mx, .float .f64 ini] w fun e w' => ∃ t v, e = .returned (.iface t v) ∧ Below w.heap.size w w' := by
  go_enter Ybaf.func23, Ybaf.ntmps23
  go_wp2
  go_ret
  exact ⟨_, _, rfl, (Below.refl _ w).alloc (Nat.le_refl _) _⟩

/-- the instance is in range -/
def OkInst (n : Int) (b mx ini : Nat) : Prop := 1 ≤ n ∧ pctB b = true ∧ hunB b = true ∧ finB mx = true ∧ finB ini = true ∧ ∃ s, Ieee.double.add mx ini = some s ∧ infB s = false

theorem vi23_bad (n : Int) (b mx ini : Nat) (w : World) (h : ¬ OkInst n b mx ini) :
    Calls Ybaf.prog 23 #[.int .i64 n, .float .f64 b, .float .f64 mx, .float .f64 ini] w fun e w' => ∃ t v, e = .returned (.iface t v) ∧ Below w.heap.size w w' := by
  by_cases h1 : 1 ≤ n
  · cases h2 : pctB b
    · exact vi23_pct n b mx ini w h1 h2
    · cases h3 : hunB b
      · exact vi23_hun n b mx ini w h1 h2 h3
      · cases h4 : finB mx
        · exact vi23_max n b mx ini w h1 h2 h3 h4
        · cases h5 : finB ini
          · exact vi23_ini n b mx ini w h1 h2 h3 h4 h5
          · obtain ⟨s, hs⟩ := sum_fin mx ini h4 h5
            cases h6 : infB s
            · exact absurd ⟨h1, h2, h3, h4, h5, s, hs, h6⟩ h
            · exact vi23_sum n b mx ini s w h1 h2 h3 h4 h5 hs h6
  · exact vi23_cpu n b mx ini w (by omega)

set_option maxHeartbeats 800000 in
theorem vr25_bad (d : Int) (p : Nat) (w : World) (h : ¬ (0 < d ∧ finB p = true)) :
    Calls Ybaf.prog 25 #[.int .i64 d, .float .f64 p] w fun e w' => ∃ t v, e = .returned (.iface t v) ∧ Below w.heap.size w w' := by
  by_cases h1 : 0 < d
  · have h2 : finB p = false := by
      cases h2 : finB p
      · rfl
      · exact absurd ⟨h1, h2⟩ h
    clear h
    go_enter Ybaf.func25, Ybaf.ntmps25
    go_wp2_with (go_at_call 29; refine (fnn29 _ _).mono ?_; rintro e w' ⟨rfl, hw⟩; cases hw)
    go_ret
    exact ⟨_, _, rfl, (Below.refl _ w).alloc (Nat.le_refl _) _⟩
  · have h2 : d ≤ 0 := by omega
    clear h
    go_enter Ybaf.func25, Ybaf.ntmps25
    go_wp2
    go_ret
    exact ⟨⟨_, _, rfl⟩, (Below.refl _ w).alloc (Nat.le_refl _) _⟩
end Go.Proofs.YbulkbcgsFmt
