import Derived.Test.YbulkbckmA8
namespace Go.Proofs.Ybulkbckm
open Go.RowKit
set_option linter.unusedSimpArgs false
set_option linter.unusedVariables false

/-- a row of strings of room n, its head known -/
def StrRow (w : World) (g n : Nat) (ss : List ByteArray) : Prop := ∃ cb : List Value, w.heap[g]? = some (.cells cb.toArray 9 (0, 0)) ∧ cb.length = n ∧ ss.length ≤ n ∧ cb.take ss.length = ss.map Value.string

theorem size9 : (Yba.prog.info? 9).map (·.size) = some 1 := by kernel_rfl

theorem StrRow.fr {w w' : World} {S : Nat → Prop} {g n : Nat} {ss : List ByteArray} (h : StrRow w g n ss) (hf : Fr S w w') (hS : ¬ S g) : StrRow w' g n ss := by
  obtain ⟨cb, h1, h2⟩ := h
  exact ⟨cb, by rw [hf.block g (lt_of_block h1) hS]; exact h1, h2⟩

theorem StrRow.lt {w : World} {g n : Nat} {ss : List ByteArray} (h : StrRow w g n ss) : g < w.heap.size := by
  obtain ⟨cb, h1, _⟩ := h; exact lt_of_block h1

/-- 'append(row, s)' where the row has room: in place -/
theorem app32 {w : World} {g n : Nat} {ss : List ByteArray} (h : StrRow w g n ss) (hr : ss.length < n) (s : ByteArray) :
    ∃ w', (Builtin.append_ #[32, 32] 32 #[.slice (some ⟨g, 0, none⟩) ss.length n, .slice (some ⟨w.heap.size, 0, none⟩) 1 1]).run Yba.prog (w.alloc (.cells #[.string s] 9)) = .ok (.slice (some ⟨g, 0, none⟩) (ss.length + 1) n) w' ∧ StrRow w' g n (ss ++ [s]) ∧ Fr (fun k => k = g) w w' := by
  obtain ⟨cb, h1, h2, h3, h4⟩ := h
  obtain ⟨i0, hi0, hs0⟩ := Option.map_eq_some_iff.1 size9
  have hg : (w.alloc (.cells #[.string s] 9)).heap[g]? = some (.cells cb.toArray 9 (0, 0)) := by rw [Below.heap_alloc _ _ _ (lt_of_block h1)]; exact h1
  have hc : ∀ j u, [Value.string s][j]? = some u → (w.alloc (.cells #[.string s] 9)).cell? ((⟨w.heap.size, 0, none⟩ : Addr).add j) = some u := by
    intro j u hj
    have hj0 : j = 0 := by have := (List.getElem?_eq_some_iff.1 hj).1; simpa using this
    subst hj0
    simp at hj
    subst hj
    have hadd : (⟨w.heap.size, 0, none⟩ : Addr).add 0 = ⟨w.heap.size, 0, none⟩ := by unfold Addr.add; split <;> simp_all
    rw [hadd]
    simp
  have hrun := run_append_roomF (P := Yba.prog) (w.alloc (.cells #[.string s] 9)) 32 32 9 i0 Yba.underlying32 hi0 hs0 g ss.length n cb.toArray (0, 0) hg (Nat.zero_le _) ⟨w.heap.size, 0, none⟩ 1 1 [.string s] rfl hc (by intro u hu; simp at hu; subst hu; rfl) (by omega) (by simp; omega)
  refine ⟨_, hrun, ⟨_, setRow_heap _ g _ _ 9 _ hg, ?_, by simp; omega, ?_⟩, ?_⟩
  · simp [h2]; omega
  · rw [List.toList_toArray, h4, List.take_append_of_le_length (by simp), List.take_of_length_le (by simp)]
    simp
  · exact (Fr.refl (fun k => k = g) w).alloc _ |>.trans (Fr.ofGrown (grownBy_setRow _ g _)) (fun k _ e => by simpa using e)
end Go.Proofs.Ybulkbckm
