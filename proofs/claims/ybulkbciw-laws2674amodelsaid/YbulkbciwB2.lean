import Derived.Test.YbulkbciwB1
namespace Go.Proofs.Ybulkbciw
open Go.RowKit
set_option linter.unusedSimpArgs false
set_option linter.unusedVariables false

/-- the counts: at each i up to L how many of cs are i -/
def CRow (w : World) (g L : Nat) (cs : List Nat) : Prop := ∃ cur e, w.heap[g]? = some (.cells cur e (0, 0)) ∧ ∀ i, i ≤ L → cur[i]? = some (.int .i64 ((cs.count i : Nat) : Int))
theorem CRow.below {w w' : World} {g L : Nat} {cs : List Nat} (h : CRow w g L cs) (hb : Below w.heap.size w w') : CRow w' g L cs := by
  obtain ⟨cur, e, h1, h2⟩ := h
  exact ⟨cur, e, by rw [hb.block g (lt_of_block h1)]; exact h1, h2⟩
theorem CRow.get {w : World} {g L : Nat} {cs : List Nat} (h : CRow w g L cs) (i : Nat) (hi : i ≤ L) : w.cell? ⟨g, i, none⟩ = some (.int .i64 ((cs.count i : Nat) : Int)) ∧ w.frozen? ⟨g, i, none⟩ = false := by
  obtain ⟨cur, e, h1, h2⟩ := h
  have := h2 i hi
  exact ⟨by simp only [World.cell?, h1]; simpa using this, by simp [World.frozen?, h1]⟩
theorem CRow.inc {w : World} {g L : Nat} {cs : List Nat} (h : CRow w g L cs) (i : Nat) (hi : i ≤ L) (x : Int) (hx : x = (cs.count i : Nat) + 1) : CRow (w.setCell ⟨g, i, none⟩ (.int .i64 x)) g L (cs ++ [i]) := by
  subst hx
  obtain ⟨cur, e, h1, h2⟩ := h
  refine ⟨cur.setIfInBounds i (.int .i64 ((cs.count i : Nat) + 1)), e, ?_, fun j hj => ?_⟩
  · rw [setCell_eq_setRow w g i _ e (0, 0) _ h1, setRow_heap w g _ _ e _ h1]
  · rw [Array.getElem?_setIfInBounds, List.count_append]
    by_cases hij : i = j
    · subst hij
      have hlt : i < cur.size := by
        have := h2 i hi
        rw [Array.getElem?_eq_some_iff] at this
        exact this.1
      rw [if_pos rfl, if_pos hlt]
      simp
    · rw [if_neg hij, h2 j hj]
      simp [List.count_cons, hij]

/-- what is said of fewestAdded at trees d deep -/
def Few13 (m nn L g Bm : Nat) (zs : List Nat) (d : Nat) : Prop := ∀ (w : World) (vs is : Value) (t : T d) (D : Bool) (S : Nat → Prop), Rep S m d w vs is t → MdRow w g nn zs → w.cell? ⟨Bm, 0, none⟩ = some (.slice (some ⟨g, 0, none⟩) nn nn) → (∀ v ∈ flat d t, 0 ≤ v ∧ v < nn) →
  Calls Yba.prog 13 #[.agg #[.int .u64 (thr d t : Nat), vs, is], .func (.func 10) #[] #[.pointer (some ⟨Bm, 0, none⟩)], .func (.func 12) #[] #[.pointer (some ⟨Bm, 0, none⟩)], .int .i64 (nn : Int), .int .i64 (L : Int), .bool D] w fun e w' => e = .returned (.int .i64 ((valT zs L d D t : Nat) : Int)) ∧ Below w.heap.size w w'
end Go.Proofs.Ybulkbciw
