import Derived.Test.YbulkbcgeRows
import Derived.Test.YbulkbcgeMem
import Derived.Outline
namespace Go.Proofs.Ybulkbcge
open Go.RowKit
set_option linter.unusedSimpArgs false
set_option linter.unusedVariables false

/-- what the handed cmp answers -/
def cmpD (a b : Int) (d : Bool) : Int :=
  if d then (if b < a then -1 else if a < b then 1 else 0) else (if a < b then -1 else if b < a then 1 else 0)
/-- the value by which the order goes -/
def kd (d : Bool) (a : Int) : Int := if d then -a else a
theorem cmpD_neg (a b : Int) (d : Bool) : cmpD a b d < 0 ↔ kd d a < kd d b := by
  cases d <;> simp only [cmpD, kd, if_true, if_false, Bool.false_eq_true] <;> (repeat' split) <;> omega

theorem ret_int {k : IntKind} {a b : Int} (h : a = b) : Ending.returned (.int k a) = .returned (.int k b) := by rw [h]

set_option maxHeartbeats 400000 in
theorem cmp_any (a b : Int) (d : Bool) (w : World) :
    Calls Yba.prog 12 #[.int .i64 a, .int .i64 b, .bool d] w fun e w' => e = .returned (.int .i64 (cmpD a b d)) ∧ w' = w := by
  have hc : ∀ x, x = cmpD a b d → x = cmpD a b d := fun _ h => h
  cases d <;> by_cases h1 : a < b <;> by_cases h2 : b < a <;> first | omega | skip
  all_goals
    clear hc
    go_enter Yba.func12, Yba.ntmps12
    go_wp2
    go_ret
    exact ⟨ret_int (by simp only [cmpD, if_true, if_false, Bool.false_eq_true]; (repeat' split) <;> omega), rfl⟩

/-- the closure's two boxes: the count of calls, the direction -/
structure Tick (bc bd : Nat) (d : Bool) (q : Int) (w : World) : Prop where
  calls : w.heap[bc]? = some (.cells #[.int .i64 q] 3 (0, 0))
  dir : w.heap[bd]? = some (.cells #[.bool d] 4 (0, 0))

theorem Tick.ne {bc bd : Nat} {d : Bool} {q : Int} {w : World} (h : Tick bc bd d q w) : bd ≠ bc := fun e => by
  have h1 := h.calls; have h2 := h.dir
  rw [e, h1] at h2
  simp at h2

theorem Tick.kept {bc bd : Nat} {d : Bool} {q : Int} {w w' : World} {S : Nat → Prop} (h : Tick bc bd d q w) (f : Fr S w w') (h1 : ¬ S bc) (h2 : ¬ S bd) : Tick bc bd d q w' :=
  ⟨by rw [f.block bc (lt_of_block h.calls) h1]; exact h.calls, by rw [f.block bd (lt_of_block h.dir) h2]; exact h.dir⟩

theorem Tick.drew {bc bd : Nat} {d : Bool} {q : Int} {w : World} (h : Tick bc bd d q w) : Tick bc bd d q w.drew := ⟨h.calls, h.dir⟩

set_option maxHeartbeats 400000 in
theorem f11_any (a b : Int) (d : Bool) (bc bd : Nat) (q : Int) (w : World) (h : Tick bc bd d q w) (h0 : 0 ≤ q) (h1 : q ≤ 1000000000000) :
    Calls Yba.prog 11 #[.int .i64 a, .int .i64 b, .pointer (some ⟨bc, 0, none⟩), .pointer (some ⟨bd, 0, none⟩)] w fun e w' =>
      e = .returned (.int .i64 (cmpD a b d)) ∧ Tick bc bd d (q + 1) w' ∧ Fr (· = bc) w w' := by
  have hne := h.ne
  have c1 := cell_of_one h.calls
  have c2 := cell_of_one h.dir
  have f1 := free_of_one h.calls
  have H : Hid (Tick bc bd d q w) := h
  clear h
  go_enter Yba.func11, Yba.ntmps11
  go_wp2_with (go_at_call 12; refine (cmp_any _ _ _ _).mono ?_; rintro e w' ⟨rfl, rfl⟩)
  go_ret
  refine ⟨rfl, ⟨one_setCell H.out.calls, ?_⟩, Fr.setCell (S := (· = bc)) (Fr.refl _ _) (p := ⟨bc, 0, none⟩) rfl _⟩
  rw [Below.heap_setCell _ _ _ _ hne]; exact H.out.dir

end Go.Proofs.Ybulkbcge
