import Derived.Test.YbulkbckmA3
import Derived.Deep.RegionHeld3
import Derived.Deep.DrawnRows
namespace Go.Proofs.Ybulkbckm
open Go.RowKit
set_option linter.unusedSimpArgs false
set_option linter.unusedVariables false

set_option maxHeartbeats 1000000 in
/-- 'grow' at a builder with no buffer: a new row of at least n cells -/
theorem grow17 (B n : Nat) (w : World) (q : Option Addr) (h : BldAt w B q none 0 0) (hn : n ≤ 281474976710656) :
    Calls Yba.prog 17 #[.pointer (some ⟨B, 0, none⟩), .int .i64 n] w fun e w' => e = .returned (.tuple #[]) ∧ ∃ cs : List Value, BldAt w' B q (some ⟨w.heap.size, 0, none⟩) 0 cs.length ∧ w'.heap[w.heap.size]? = some (.cells cs.toArray 5 (0, 0)) ∧ n ≤ cs.length ∧ (n ≤ maxLen → cs.length ≤ maxLen) ∧ Fr (fun k => k = B) w w' := by
  obtain ⟨cs, hrun, hle, hmax⟩ := Lib.run_makeNoZero (P := Yba.prog) w.drew #[3] 24 5 Yba.underlying24 n hn
  have hw : IntKind.i64.wrap (IntKind.i64.wrap 0 + (n : Int)) = n := by
    rw [IntKind.wrap_i64, IntKind.wrap_i64]; omega
  have hcall : (callFunc 10 #[.int .i64 (IntKind.i64.wrap (IntKind.i64.wrap 0 + (n : Int)))]).run Yba.prog w.drew = .ok (.value (.slice (some ⟨w.drew.heap.size, 0, none⟩) n cs.size)) (w.drew.drew.drew.alloc (.cells cs 5)) := by
    rw [hw, call10, hrun]; rfl
  have c1 := h.c1
  have h2 : BldAt (w.alloc (.cells cs 5)) B q none 0 0 := h.alloc _
  have c2 := h2.c1
  have f2 := h2.f1
  have hcopy : ∀ W : World, (Builtin.copy_ #[24, 24] 3 #[.slice (some ⟨w.heap.size, 0, none⟩) 0 cs.size, .slice none 0 0]).run Yba.prog W = .ok (goInt 0) W :=
    fun W => run_copy_none W 24 24 3 5 _ _ 0 cs.size 0 0 Yba.underlying24 size5 rfl
  have HF : Hid (BldAt ((w.alloc (.cells cs 5)).setCell ⟨B, 1, none⟩ (.slice (some ⟨w.heap.size, 0, none⟩) 0 cs.size)) B q (some ⟨w.heap.size, 0, none⟩) 0 cs.size ∧ ((w.alloc (.cells cs 5)).setCell ⟨B, 1, none⟩ (.slice (some ⟨w.heap.size, 0, none⟩) 0 cs.size)).heap[w.heap.size]? = some (.cells cs 5 (0, 0)) ∧ Fr (fun k => k = B) w ((w.alloc (.cells cs 5)).setCell ⟨B, 1, none⟩ (.slice (some ⟨w.heap.size, 0, none⟩) 0 cs.size))) := by
    refine ⟨h2.set1 _ _ _, ?_, ((Fr.refl (fun k => k = B) w).alloc _).setCell (p := ⟨B, 1, none⟩) rfl _⟩
    rw [Below.heap_setCell _ _ _ _ (by have := h.lt; simp; omega)]
    exact heap_alloc_new _ _
  clear hw h h2 hrun
  go_enter Yba.func17, Yba.ntmps17
  go_wp2
  go_region_held3 (fun w' => w'.cell? ⟨B, 1, none⟩ = some (.slice none 0 0)) (first | go_keep | (simpa using c2)) (fail)
  go_wp2
  go_end0
  refine ⟨rfl, cs.toList, ?_, ?_, by simpa using hle, by simpa using hmax, ?_⟩
  · rw [Array.length_toList]; exact HF.out.1
  · rw [Array.toArray_toList]; exact HF.out.2.1
  · exact ((HF.out.2.2.drew).drew).drew

set_option maxHeartbeats 1000000 in
/-- 'Grow' at a builder that was never written -/
theorem Grow11 (B n : Nat) (w : World) (h : BldAt w B none none 0 0) (hn0 : 0 < n) (hn : n ≤ 281474976710656) :
    Calls Yba.prog 11 #[.pointer (some ⟨B, 0, none⟩), .int .i64 n] w fun e w' => e = .returned (.tuple #[]) ∧ ∃ cs : List Value, BldAt w' B (some ⟨B, 0, none⟩) (some ⟨w.heap.size, 0, none⟩) 0 cs.length ∧ w'.heap[w.heap.size]? = some (.cells cs.toArray 5 (0, 0)) ∧ n ≤ cs.length ∧ (n ≤ maxLen → cs.length ≤ maxLen) ∧ Fr (fun k => k = B) w w' := by
  have h0 := h.c0
  have hsh := h.sh
  have hf0 := h.f0
  have h2 := h.set0 (some ⟨B, 0, none⟩)
  have hsz : (w.setCell ⟨B, 0, none⟩ (.pointer (some ⟨B, 0, none⟩))).heap.size = w.heap.size := by simp [World.setCell]
  have hfr : Fr (fun k => k = B) w (w.setCell ⟨B, 0, none⟩ (.pointer (some ⟨B, 0, none⟩))) := (Fr.refl (fun k => k = B) w).setCell (p := ⟨B, 0, none⟩) rfl _
  have HW : Hid (BldAt (w.setCell ⟨B, 0, none⟩ (.pointer (some ⟨B, 0, none⟩))) B (some ⟨B, 0, none⟩) none 0 0 ∧ (w.setCell ⟨B, 0, none⟩ (.pointer (some ⟨B, 0, none⟩))).heap.size = w.heap.size ∧ Fr (fun k => k = B) w (w.setCell ⟨B, 0, none⟩ (.pointer (some ⟨B, 0, none⟩)))) := ⟨h2, hsz, hfr⟩
  have c1 := h2.c1
  clear h h2 hsz hfr
  go_enter Yba.func11, Yba.ntmps11
  go_wp2_with (go_at_call 16; refine (check16_fresh B w h0 hsh hf0).mono ?_; rintro e w1 ⟨rfl, rfl⟩)
  go_quiet (fail)
  obtain ⟨W, eW, hW⟩ : ∃ W, (w.setCell ⟨B, 0, none⟩ (.pointer (some ⟨B, 0, none⟩))).drewN nq = W ∧ Hid (BldAt W B (some ⟨B, 0, none⟩) none 0 0 ∧ W.heap.size = w.heap.size ∧ Fr (fun k => k = B) w W) := ⟨_, rfl, HW.out.1, HW.out.2.1, HW.out.2.2.drewN nq⟩
  rw [eW]
  clear eW HW c1
  go_wp2_with (go_at_call 17; refine (grow17 B n W _ hW.out.1 hn).mono ?_; rintro e w2 ⟨rfl, cs, g1, g2, g3, g4, g5⟩; have HG : Hid (BldAt w2 B (some ⟨B, 0, none⟩) (some ⟨W.heap.size, 0, none⟩) 0 cs.length ∧ w2.heap[W.heap.size]? = some (.cells cs.toArray 5 (0, 0)) ∧ Fr (fun k => k = B) W w2) := ⟨g1, g2, g5⟩; clear g1 g2 g5)
  go_end0
  obtain ⟨h1, h2, h3⟩ := HG.out
  rw [hW.out.2.1] at h1 h2
  exact ⟨rfl, cs, h1, h2, g3, g4, hW.out.2.2.trans h3 (fun _ _ e => e)⟩
end Go.Proofs.Ybulkbckm
