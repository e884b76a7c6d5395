import Derived.Test.YbulkbciwK5
namespace Go.Proofs.Ybulkbciw
open Go.RowKit
set_option linter.unusedSimpArgs false
set_option linter.unusedVariables false

/-- an element of a row of sets: its two slices, and the tree that they hold -/
abbrev El (d : Nat) := Value × Value × T d
def encE (d : Nat) (e : El d) : List Value := [.int .u64 (thr d e.2.2 : Nat), e.1, e.2.1]
def cellsOf (d : Nat) (L : List (El d)) : List Value := L.flatMap (encE d)
def Elems (S : Nat → Prop) (m d : Nat) (w : World) (L : List (El d)) : Prop := ∀ e ∈ L, Rep S m d w e.1 e.2.1 e.2.2
/-- of the call's own since n, and not the row itself -/
def SE (n : Nat) (p : Option Addr) (k : Nat) : Prop := n ≤ k ∧ p ≠ some ⟨k, 0, none⟩

theorem cellsOf_get (d : Nat) : (L : List (El d)) → (i : Nat) → (h : i < L.length) → (cellsOf d L)[i * 3]? = some (.int .u64 (thr d L[i].2.2 : Nat)) ∧ (cellsOf d L)[i * 3 + 1]? = some L[i].1 ∧ (cellsOf d L)[i * 3 + 2]? = some L[i].2.1
  | [], i, h => by simp at h
  | e :: L, 0, h => by simp [cellsOf, encE]
  | e :: L, i + 1, h => by
    have h' : i < L.length := by simpa using h
    have ih := cellsOf_get d L i h'
    have hc : cellsOf d (e :: L) = [.int .u64 (thr d e.2.2 : Nat), e.1, e.2.1] ++ cellsOf d L := rfl
    rw [hc, show (i + 1) * 3 = 3 + i * 3 by omega, show 3 + i * 3 + 1 = 3 + (i * 3 + 1) by omega, show 3 + i * 3 + 2 = 3 + (i * 3 + 2) by omega]
    rw [List.getElem?_append_right (by simp), List.getElem?_append_right (by simp), List.getElem?_append_right (by simp)]
    simpa using ih
theorem cellsOf_append (d : Nat) (L : List (El d)) (e : El d) : cellsOf d (L ++ [e]) = cellsOf d L ++ [.int .u64 (thr d e.2.2 : Nat), e.1, e.2.1] := by
  simp [cellsOf, encE]

theorem Elems.nil (S : Nat → Prop) (m d : Nat) (w : World) : Elems S m d w [] := fun e h => by simp at h
theorem Elems.mono {S S' : Nat → Prop} {m m' d : Nat} {w : World} {L : List (El d)} (h : Elems S m d w L) (hS : ∀ k, k < w.heap.size → S k → S' k) (hm : m ≤ m') : Elems S' m' d w L := fun e he => (h e he).mono hS hm
theorem Elems.fr {S R : Nat → Prop} {m d : Nat} {w w' : World} {L : List (El d)} (h : Elems S m d w L) (hf : Fr R w w') (hS : ∀ k, S k → ¬ R k) : Elems S m d w' L := fun e he => (h e he).fr hf hS
theorem Elems.below {S : Nat → Prop} {m d : Nat} {w w' : World} {L : List (El d)} (h : Elems S m d w L) (hb : Below w.heap.size w w') : Elems S m d w' L := fun e he => (h e he).below hb
theorem Elems.app {n m d g' : Nat} {p : Option Addr} {w w' : World} {L : List (El d)} {e : El d} (h : Elems (SE n p) m d w L) (hr : Rep (SE n p) m d w e.1 e.2.1 e.2.2) (hf : Fr (fun j => p = some ⟨j, 0, none⟩) w w') (hg : p = some ⟨g', 0, none⟩ ∨ g' = w.heap.size + 1) :
    Elems (SE n (some ⟨g', 0, none⟩)) m d w' (L ++ [e]) := by
  have key : ∀ x : El d, Rep (SE n p) m d w x.1 x.2.1 x.2.2 → Rep (SE n (some ⟨g', 0, none⟩)) m d w' x.1 x.2.1 x.2.2 := by
    intro x hx
    refine Rep.keep (fun a v hs e => ?_) (fun k hk hs => ?_) (Nat.le_refl _) d _ _ _ hx
    · rw [hf.cell (cell_lt e) (fun hh => hs.2 hh)]; exact e
    · refine ⟨hs.1, fun hh => ?_⟩
      simp only [Option.some.injEq, Addr.mk.injEq, and_true] at hh
      subst hh
      rcases hg with hg | hg
      · exact hs.2 hg
      · omega
  intro x hx
  rcases List.mem_append.1 hx with hx | hx
  · exact key x (h x hx)
  · simp at hx; subst hx; exact key _ hr

theorem mkRep {S : Nat → Prop} {m d : Nat} {w : World} {pu px : Option Addr} {u : List Int} {cu k cx base a : Nat} {L : List (El d)} (hu : IntRow S w pu u) (ho : Own w base 30 3 px k cx (cellsOf d L)) (hl : L.length = k) (he : Elems S m d w L) (hS : ∀ b, base ≤ b → S b) (lu : u.length ≤ m) (lk : k ≤ m) :
    Rep S m (d + 1) w (.slice pu u.length cu) (.slice px k cx) (a, u, L.map (·.2.2)) := by
  subst hl
  refine ⟨pu, cu, px, cx, rfl, by simp, lu, by simpa using lk, hu, ?_⟩
  rcases ho.at with ⟨_, h0, _⟩ | ⟨g, e, hb, _, hc, _⟩
  · exact .inl (by have : L = [] := List.length_eq_zero_iff.1 h0; simp [this])
  · refine .inr ⟨g, e, hS g hb, fun i hi => ?_⟩
    have hi' : i < L.length := by simpa using hi
    obtain ⟨c1, c2, c3⟩ := cellsOf_get d L i hi'
    have hget : (List.map (fun x : El d => x.2.2) L)[i]'hi = (L[i]'hi').2.2 := List.getElem_map _
    refine ⟨(L[i]'hi').1, (L[i]'hi').2.1, ?_, hc _ _ c2, hc _ _ c3, ?_⟩
    · show w.cell? _ = some (.int .u64 (thr d ((List.map (fun x : El d => x.2.2) L)[i]'hi) : Nat))
      rw [hget]; exact hc _ _ c1
    · show Rep S m d w _ _ ((List.map (fun x : El d => x.2.2) L)[i]'hi)
      rw [hget]
      exact he _ (List.getElem_mem _)

/-- a boxed set -/
def BoxAt (w : World) (C : Nat) (a vs is : Value) : Prop := w.heap[C]? = some (.cells #[a, vs, is] 30 (0, 0))
section
variable {w : World} {C : Nat} {a vs is : Value}
theorem BoxAt.c0 (h : BoxAt w C a vs is) : w.cell? ⟨C, 0, none⟩ = some a := by unfold BoxAt at h; simp [World.cell?, h]
theorem BoxAt.c1 (h : BoxAt w C a vs is) : w.cell? ⟨C, 1, none⟩ = some vs := by unfold BoxAt at h; simp [World.cell?, h]
theorem BoxAt.c2 (h : BoxAt w C a vs is) : w.cell? ⟨C, 2, none⟩ = some is := by unfold BoxAt at h; simp [World.cell?, h]
theorem BoxAt.f (h : BoxAt w C a vs is) (j : Nat) : w.frozen? ⟨C, j, none⟩ = false := by unfold BoxAt at h; simp [World.frozen?, h]
theorem BoxAt.lt (h : BoxAt w C a vs is) : C < w.heap.size := lt_of_block h
theorem BoxAt.set2 (h : BoxAt w C a vs is) (v : Value) : BoxAt (w.setCell ⟨C, 2, none⟩ v) C a vs v := by
  unfold BoxAt at h ⊢
  rw [setCell_eq_setRow w C 2 _ 30 (0, 0) _ h, setRow_heap w C _ _ 30 _ h]
  rfl
theorem BoxAt.set1 (h : BoxAt w C a vs is) (v : Value) : BoxAt (w.setCell ⟨C, 1, none⟩ v) C a v is := by
  unfold BoxAt at h ⊢
  rw [setCell_eq_setRow w C 1 _ 30 (0, 0) _ h, setRow_heap w C _ _ 30 _ h]
  rfl
theorem BoxAt.fr {S : Nat → Prop} {w' : World} (h : BoxAt w C a vs is) (f : Fr S w w') (hS : ¬ S C) : BoxAt w' C a vs is := by
  unfold BoxAt at h ⊢
  rw [f.block C (lt_of_block h) hS]; exact h
theorem BoxAt.new (w : World) (a vs is : Value) : BoxAt (w.alloc (.cells #[a, vs, is] 30)) w.heap.size a vs is := by unfold BoxAt; rw [heap_alloc_new]
end
theorem Below.toFr {w w' : World} (h : Below w.heap.size w w') : Fr (fun _ => False) w w' := ⟨h.os, h.tape, h.output, h.size, fun k hk _ => h.block k hk⟩
end Go.Proofs.Ybulkbciw
