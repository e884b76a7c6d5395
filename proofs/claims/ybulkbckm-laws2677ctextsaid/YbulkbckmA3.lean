import Derived.Test.YbulkbckmA2
import Derived.Lib.Builder
import Derived.Lib.FrozenHead
import Derived.BigQuiet
import Derived.Deep.QuietTactic
namespace Go.Proofs.Ybulkbckm
open Go.RowKit
set_option linter.unusedSimpArgs false
set_option linter.unusedVariables false

theorem conv_to (w : World) (B : Nat) (hsh : w.shape? B = some (31, 2)) : (convert 27 55 (.pointer (some ⟨B, 0, none⟩))).run Yba.prog w = .ok (.pointer (some ⟨B, 0, none⟩)) w := by
  obtain ⟨j, hj, hjs⟩ := Option.map_eq_some_iff.1 (by kernel_rfl : (Yba.prog.info? 29).map (·.size) = some 2)
  exact Lib.run_to_unsafe w ⟨B, 0, none⟩ Yba.underlying27 Yba.underlying55 hj (by rw [hjs]; decide) hsh (Nat.zero_lt_succ 1)
theorem conv_from (w : World) (B : Nat) (hsh : w.shape? B = some (31, 2)) : (convert 55 27 (.pointer (some ⟨B, 0, none⟩))).run Yba.prog w = .ok (.pointer (some ⟨B, 0, none⟩)) w := by
  obtain ⟨j, hj, hjs⟩ := Option.map_eq_some_iff.1 (by kernel_rfl : (Yba.prog.info? 29).map (·.size) = some 2)
  exact Lib.run_from_unsafe w ⟨B, 0, none⟩ Yba.underlying55 Yba.underlying27 hj hsh (by kernel_rfl)
theorem call18 (x : Value) (w : World) : (callFunc 18 #[x]).run Yba.prog w = .ok (.value x) w := by
  rw [run_callFunc_extern Yba.func18 (by kernel_rfl) (by kernel_rfl) (by kernel_rfl) (e := Extern.AbiNoEscape.same) (by kernel_rfl), Lib.run_noEscape]
  rfl

/-- the texts' block: the builder's own address, or none; its buffer -/
def BldAt (w : World) (B : Nat) (q : Option Addr) (p : Option Addr) (l cap : Nat) : Prop := w.heap[B]? = some (.cells #[.pointer q, .slice p l cap] 31 (0, 0))

section
variable {w : World} {B : Nat} {q p : Option Addr} {l cap : Nat}
theorem BldAt.c0 (h : BldAt w B q p l cap) : w.cell? ⟨B, 0, none⟩ = some (.pointer q) := by unfold BldAt at h; simp [World.cell?, h]
theorem BldAt.c1 (h : BldAt w B q p l cap) : w.cell? ⟨B, 1, none⟩ = some (.slice p l cap) := by unfold BldAt at h; simp [World.cell?, h]
theorem BldAt.f0 (h : BldAt w B q p l cap) : w.frozen? ⟨B, 0, none⟩ = false := by unfold BldAt at h; simp [World.frozen?, h]
theorem BldAt.f1 (h : BldAt w B q p l cap) : w.frozen? ⟨B, 1, none⟩ = false := by unfold BldAt at h; simp [World.frozen?, h]
theorem BldAt.sh (h : BldAt w B q p l cap) : w.shape? B = some (31, 2) := by unfold BldAt at h; simp [World.shape?, h]
theorem BldAt.lt (h : BldAt w B q p l cap) : B < w.heap.size := lt_of_block h
theorem BldAt.set0 (h : BldAt w B q p l cap) (q' : Option Addr) : BldAt (w.setCell ⟨B, 0, none⟩ (.pointer q')) B q' p l cap := by
  unfold BldAt at h ⊢
  rw [setCell_eq_setRow w B 0 _ 31 (0, 0) _ h, setRow_heap w B _ _ 31 _ h]
  rfl
theorem BldAt.set1 (h : BldAt w B q p l cap) (p' : Option Addr) (l' c' : Nat) : BldAt (w.setCell ⟨B, 1, none⟩ (.slice p' l' c')) B q p' l' c' := by
  unfold BldAt at h ⊢
  rw [setCell_eq_setRow w B 1 _ 31 (0, 0) _ h, setRow_heap w B _ _ 31 _ h]
  rfl
theorem BldAt.alloc (h : BldAt w B q p l cap) (o : Obj) : BldAt (w.alloc o) B q p l cap := by
  unfold BldAt at h ⊢
  rw [Below.heap_alloc _ _ _ (lt_of_block h)]; exact h
end

set_option maxHeartbeats 400000 in
theorem len5 (B : Nat) (p : Option Addr) (l cap : Nat) (w : World) (h : w.cell? ⟨B, 1, none⟩ = some (.slice p l cap)) : Calls Yba.prog 5 #[.pointer (some ⟨B, 0, none⟩)] w fun e w' => e = .returned (.int .i64 l) ∧ w' = w := by
  go_enter Yba.func5, Yba.ntmps5
  go_wp2
  go_ret
  exact ⟨rfl, rfl⟩

set_option maxHeartbeats 400000 in
theorem cap6 (B : Nat) (p : Option Addr) (l cap : Nat) (w : World) (h : w.cell? ⟨B, 1, none⟩ = some (.slice p l cap)) : Calls Yba.prog 6 #[.pointer (some ⟨B, 0, none⟩)] w fun e w' => e = .returned (.int .i64 cap) ∧ w' = w := by
  go_enter Yba.func6, Yba.ntmps6
  go_wp2
  go_ret
  exact ⟨rfl, rfl⟩

set_option maxHeartbeats 400000 in
theorem check16_fresh (B : Nat) (w : World) (h0 : w.cell? ⟨B, 0, none⟩ = some (.pointer none)) (hsh : w.shape? B = some (31, 2)) (hfz : w.frozen? ⟨B, 0, none⟩ = false) :
    Calls Yba.prog 16 #[.pointer (some ⟨B, 0, none⟩)] w fun e w' => e = .returned (.tuple #[]) ∧ w' = w.setCell ⟨B, 0, none⟩ (.pointer (some ⟨B, 0, none⟩)) := by
  have k1 := conv_to w B hsh
  have k2 := call18
  have k3 := conv_from w B hsh
  go_enter Yba.func16, Yba.ntmps16
  go_wp2
  go_end0
  exact ⟨rfl, rfl⟩

set_option maxHeartbeats 400000 in
theorem check16_used (B : Nat) (w : World) (h0 : w.cell? ⟨B, 0, none⟩ = some (.pointer (some ⟨B, 0, none⟩))) :
    Calls Yba.prog 16 #[.pointer (some ⟨B, 0, none⟩)] w fun e w' => e = .returned (.tuple #[]) ∧ w' = w := by
  obtain ⟨j, hj, hjs⟩ := Option.map_eq_some_iff.1 (by kernel_rfl : (Yba.prog.info? 29).map (·.size) = some 2)
  have k1 := Lib.run_neq_ptr_same (P := Yba.prog) w ⟨B, 0, none⟩ Yba.underlying27 hj
  go_enter Yba.func16, Yba.ntmps16
  go_wp2
  go_end0
  exact ⟨rfl, rfl⟩
end Go.Proofs.Ybulkbckm
