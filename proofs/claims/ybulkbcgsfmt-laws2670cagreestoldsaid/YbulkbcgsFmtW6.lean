import Derived.Test.YbulkbcgsFmtW5
import Derived.Laws.StructEq
import Derived.BigQuiet
import Derived.Deep.QuietTactic
namespace Go.Proofs.YbulkbcgsFmt
open Go.RowKit
set_option linter.unusedSimpArgs false
set_option linter.unusedVariables false
attribute [local go_sem ↓] Go.wp_at_zero Go.wp_at_succ
attribute [local go_sem] run_store_float

set_option maxHeartbeats 1600000 in
theorem cok10_ok (nm md : ByteArray) (n d tv : Int) (b mx ini pr price s : Nat) (pa : Option Addr) (pl pc : Nat) (w : World) (hmd : modeB md = true) (hn : 1 ≤ n) (hb1 : pctB b = true) (hb2 : hunB b = true) (hm : finB mx = true) (hi : finB ini = true) (hs : Ieee.double.add mx ini = some s) (hs2 : infB s = false) (hd : 0 < d) (hp : finB pr = true) :
    Calls Ybaf.prog 10 #[.agg #[.string nm, .int .i64 n, .float .f64 b, .float .f64 mx, .float .f64 ini, .float .f64 price], .string md, .agg #[.int .i64 tv, .int .i64 d, .float .f64 pr, .slice pa pl pc]] w fun e w' =>
      e = .returned (.bool true) ∧ Below w.heap.size w w' := by
  have r1 := fun w => run_float_arith (P := Ybaf.prog) w .add 22 .f64 _ _ s hs
  unfold pctB at hb1
  unfold hunB at hb2
  unfold infB at hs2
  clear hs
  unfold modeB at hmd
  by_cases h0 : (md.toList == [115, 116, 97, 110, 100, 97, 114, 100]) = true
  · clear hmd
    go_enter Ybaf.func10, Ybaf.ntmps10
    go_wp2_with (go_at_call 16; refine (cfin16 _ _).mono ?_; rintro e w' ⟨rfl, hw⟩; subst hw)
    go_ret
    exact ⟨rfl, ((Below.refl _ w).alloc (Nat.le_refl _) _).alloc (by simp) _⟩
  · rw [Bool.not_eq_true] at h0
    rw [h0, Bool.false_or] at hmd
    go_enter Ybaf.func10, Ybaf.ntmps10
    go_wp2_with (go_at_call 16; refine (cfin16 _ _).mono ?_; rintro e w' ⟨rfl, hw⟩; subst hw)
    go_ret
    exact ⟨rfl, ((Below.refl _ w).alloc (Nat.le_refl _) _).alloc (by simp) _⟩

theorem eqf_d (d x : Nat) (h : Ieee.double.order x x = some .eq) (w : World) : (Op.equalIn (d + 1) 22 (.float .f64 x) (.float .f64 x)).run Ybaf.prog w = .ok true w := by
  have h' : FloatKind.f64.format.order x x = some .eq := h
  simp [Op.equalIn, run_underlying Ybaf.underlying22, Op.floatEq, h']
theorem eqf (x : Nat) (h : Ieee.double.order x x = some .eq) (w : World) : (Op.equalIn 9999 22 (.float .f64 x) (.float .f64 x)).run Ybaf.prog w = .ok true w := eqf_d 9998 x h w

theorem neq46 (md : ByteArray) (n d : Int) (b mx ini pr : Nat) (hb : Ieee.double.order b b = some .eq) (hm : Ieee.double.order mx mx = some .eq) (hi : Ieee.double.order ini ini = some .eq) (hp : Ieee.double.order pr pr = some .eq) (w : World) :
    (binOp .neq 46 (.agg #[.string md, .int .i64 n, .float .f64 b, .float .f64 mx, .float .f64 ini, .float .f64 0, .int .i64 d, .float .f64 pr]) (.agg #[.string md, .int .i64 n, .float .f64 b, .float .f64 mx, .float .f64 ini, .float .f64 0, .int .i64 d, .float .f64 pr])).run Ybaf.prog w = .ok (.bool false) w := by
  have hS : Ybaf.prog.underlying 46 = some (.struct (Ybaf.prog.fieldsOf 46)) := by kernel_rfl
  have hh : Ybaf.prog.stoodInHeld 46 = false := by kernel_rfl
  have e1 := eqf b hb
  have e2 := eqf mx hm
  have e3 := eqf ini hi
  have e4 := eqf pr hp
  have e5 := eqf 0 (by decide)
  rw [run_neq_struct, show (10000 : Nat) = 9999 + 1 from rfl, run_equalIn_agg w 9999 46 _ _ hS hh]
  simp only [Program.fieldsOf, Ybaf.underlying46]
  go_simp

theorem eql51 (w : World) : (binOp .eql 51 (.agg #[.int .i64 0, .float .f64 0, .float .f64 0, .float .f64 0, .float .f64 0, .float .f64 0, .float .f64 0, .float .f64 0, .float .f64 0, .float .f64 0, .float .f64 0, .float .f64 0]) (.agg #[.int .i64 0, .float .f64 0, .float .f64 0, .float .f64 0, .float .f64 0, .float .f64 0, .float .f64 0, .float .f64 0, .float .f64 0, .float .f64 0, .float .f64 0, .float .f64 0])).run Ybaf.prog w = .ok (.bool true) w := by kernel_rfl
end Go.Proofs.YbulkbcgsFmt
