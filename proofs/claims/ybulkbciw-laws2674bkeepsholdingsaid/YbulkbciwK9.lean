import Derived.Test.YbulkbciwK8
namespace Go.Proofs.Ybulkbciw
open Go.RowKit
set_option linter.unusedSimpArgs false
set_option linter.unusedVariables false

/-- what of a set is read, whatever its depth -/
theorem Rep.parts {S : Nat → Prop} {m : Nat} {w : World} : (d : Nat) → (vs is : Value) → (t : T d) → Rep S m d w vs is t → ∃ pu nu cu px nx cx, vs = .slice pu nu cu ∧ is = .slice px nx cx ∧ nu ≤ m ∧ nx ≤ m ∧
    (thr d t = 1 → nu = 1 → nx = 0 → ∃ v b, pu = some ⟨b, 0, none⟩ ∧ w.cell? ⟨b, 0, none⟩ = some (.int .i64 v) ∧ ∀ p, satT p d t = p v)
  | 0, _, _, t, _ => nomatch t
  | d + 1, vs, is, (a, u, x), ⟨pu, cu, px, cx, e1, e2, l1, l2, hu, hx⟩ => by
    refine ⟨pu, _, cu, px, _, cx, e1, e2, l1, l2, fun h1 h2 h3 => ?_⟩
    have hx0 : x = [] := List.length_eq_zero_iff.1 h3
    obtain ⟨v, hv⟩ : ∃ v, u = [v] := List.length_eq_one_iff.1 h2
    have h1' : a = 1 := h1
    subst hx0
    subst hv
    subst h1'
    rcases hu with hu | ⟨b, e, _, hc⟩
    · cases hu
    · exact ⟨v, b, e, hc 0 (by simp), fun p => sat_one d v p⟩

theorem mkRep2 {S : Nat → Prop} {m d : Nat} {w : World} {pu px : Option Addr} {u : List Int} {cu cx a : Nat} {L : List (El d)} (hu : IntRow S w pu u) (ho : L = [] ∨ ∃ g, px = some ⟨g, 0, none⟩ ∧ S g ∧ RowHas d w g L) (he : Elems S m d w L) (lu : u.length ≤ m) (lk : L.length ≤ m) :
    Rep S m (d + 1) w (.slice pu u.length cu) (.slice px L.length cx) (a, u, L.map (·.2.2)) := by
  refine ⟨pu, cu, px, cx, rfl, by simp, lu, by simpa using lk, hu, ?_⟩
  rcases ho with h0 | ⟨g, e, hb, hc⟩
  · exact .inl (by simp [h0])
  · refine .inr ⟨g, e, hb, fun i hi => ?_⟩
    have hi' : i < L.length := by simpa using hi
    obtain ⟨c1, c2, c3⟩ := hc i hi'
    have hget : (List.map (fun x : El d => x.2.2) L)[i]'hi = (L[i]'hi').2.2 := List.getElem_map _
    refine ⟨(L[i]'hi').1, (L[i]'hi').2.1, ?_, c2, c3, ?_⟩
    · show w.cell? _ = some (.int .u64 (thr d ((List.map (fun x : El d => x.2.2) L)[i]'hi) : Nat))
      rw [hget]; exact c1
    · show Rep S m d w _ _ ((List.map (fun x : El d => x.2.2) L)[i]'hi)
      rw [hget]
      exact he _ (List.getElem_mem _)

/-- of the call's own since b, neither the box nor one of the two rows -/
def SC (b C : Nat) (pU pX : Option Addr) (k : Nat) : Prop := b ≤ k ∧ k ≠ C ∧ pU ≠ some ⟨k, 0, none⟩ ∧ pX ≠ some ⟨k, 0, none⟩

/-- canonical's c under construction -/
def CSt (b d : Nat) (w : World) (C : Nat) (a : Value) (pU : Option Addr) (U : List Int) (cU : Nat) (pX : Option Addr) (L : List (El d)) (cX : Nat) : Prop :=
  BoxAt w C a (.slice pU U.length cU) (.slice pX L.length cX) ∧ Own w b 3 1 pU U.length cU (U.map (Value.int .i64)) ∧ Own w b 30 3 pX L.length cX (cellsOf d L) ∧
  (∀ j, pU = some ⟨j, 0, none⟩ → j ≠ C ∧ pX ≠ some ⟨j, 0, none⟩) ∧ (∀ j, pX = some ⟨j, 0, none⟩ → j ≠ C) ∧ Elems (SC b C pU pX) 512 d w L ∧ b ≤ C

section
variable {b d C : Nat} {w : World} {a : Value} {pU pX : Option Addr} {U : List Int} {cU cX : Nat} {L : List (El d)}
theorem CSt.below {w' : World} (h : CSt b d w C a pU U cU pX L cX) (hb : Below w.heap.size w w') : CSt b d w' C a pU U cU pX L cX := by
  obtain ⟨h1, h2, h3, h4, h5, h6, h7⟩ := h
  exact ⟨h1.fr (Below.toFr hb) (fun e => e), h2.fr (Below.toFr hb) (fun _ _ _ _ e => e), h3.fr (Below.toFr hb) (fun _ _ _ _ e => e), h4, h5, h6.below hb, h7⟩
theorem Own.blk {e size n c : Nat} {p : Option Addr} {xs : List Value} (h : Own w b e size p n c xs) {j : Nat} (hj : p = some ⟨j, 0, none⟩) : b ≤ j ∧ j < w.heap.size := by
  rcases h.at with ⟨e2, _⟩ | ⟨g, e2, hb, hlt, _⟩
  · rw [e2] at hj; cases hj
  · rw [e2] at hj; cases hj; exact ⟨hb, hlt⟩

theorem CSt.appX (h : CSt b d w C a pU U cU pX L cX) (hk : L.length ≤ 1000) (e : El d) (hr : Rep (SC b C pU pX) 512 d w e.1 e.2.1 e.2.2) :
    ∃ g' c' w2, (Builtin.append_ #[28, 28] 28 #[.slice pX L.length cX, .slice (some ⟨w.heap.size, 0, none⟩) 1 1]).run Yba.prog (w.alloc (.cells #[.int .u64 (thr d e.2.2 : Nat), e.1, e.2.1] 30)) = .ok (.slice (some ⟨g', 0, none⟩) (L.length + 1) c') w2 ∧
      BoxAt w2 C a (.slice pU U.length cU) (.slice pX L.length cX) ∧ CSt b d (w2.setCell ⟨C, 2, none⟩ (.slice (some ⟨g', 0, none⟩) (L.length + 1) c')) C a pU U cU (some ⟨g', 0, none⟩) (L ++ [e]) c' ∧
      Below b w (w2.setCell ⟨C, 2, none⟩ (.slice (some ⟨g', 0, none⟩) (L.length + 1) c')) := by
  obtain ⟨h1, h2, h3, h4, h5, h6, h7⟩ := h
  obtain ⟨pu, nu, cu, px', nx, cx', e1, e2⟩ := Rep.slices d _ _ _ hr
  have hlC := h1.lt
  obtain ⟨g', c', w2, r, o2, f2, hg, hlt⟩ := app_own w 28 30 3 56 _ Yba.underlying28 info30 rfl (by decide) (by decide) b pX L.length cX (cellsOf d L) [.int .u64 (thr d e.2.2 : Nat), e.1, e.2.1] h3 (by omega) (by omega) rfl (by
    intro u hu; rw [e1, e2] at hu; simp at hu; rcases hu with rfl | rfl | rfl <;> rfl)
  have b2 := h1.fr f2 (fun e => h5 C e rfl)
  have fs : Fr (fun j => j = C) w2 (w2.setCell ⟨C, 2, none⟩ (.slice (some ⟨g', 0, none⟩) (L.length + 1) c')) := (Fr.refl (fun j => j = C) w2).setCell rfl _
  have hg'C : g' ≠ C := by rcases hg with hg | hg; · exact h5 _ hg
                           · omega
  have hUg : ∀ j, pU = some ⟨j, 0, none⟩ → j ≠ g' := by
    intro j e hj
    subst hj
    rcases hg with hg | hg
    · exact (h4 _ e).2 hg
    · have := (h2.blk e).2; omega
  refine ⟨g', c', w2, r, b2, ⟨by simpa using b2.set2 _, ?_, ?_, fun j e => ⟨(h4 j e).1, fun hh => hUg j e (by cases hh; rfl)⟩, fun j e => by cases e; exact hg'C, ?_, h7⟩, ?_⟩
  · refine (h2.fr f2 (fun j o s e hh => ?_)).fr fs (fun j o s e hh => ?_)
    · rcases h2.at with ⟨e2, _⟩ | ⟨g, e2, _⟩
      · rw [e2] at e; cases e
      · rw [e2] at e; cases e; exact (h4 _ e2).2 hh
    · rcases h2.at with ⟨e2, _⟩ | ⟨g, e2, _⟩
      · rw [e2] at e; cases e
      · rw [e2] at e; cases e; exact (h4 _ e2).1 hh
  · rw [cellsOf_append]
    have := o2.fr fs (fun j o s e hh => by cases e; exact hg'C hh)
    simpa using this
  · have key : ∀ x : El d, Rep (SC b C pU pX) 512 d w x.1 x.2.1 x.2.2 → Rep (SC b C pU (some ⟨g', 0, none⟩)) 512 d (w2.setCell ⟨C, 2, none⟩ (.slice (some ⟨g', 0, none⟩) (L.length + 1) c')) x.1 x.2.1 x.2.2 := by
      intro x hx
      refine Rep.keep (fun ad v hs e => ?_) (fun j hj hs => ⟨hs.1, hs.2.1, hs.2.2.1, fun hh => ?_⟩) (Nat.le_refl _) d _ _ _ hx
      · have e3 : w2.cell? ad = some v := by rw [f2.cell (cell_lt e) (fun hh => hs.2.2.2 hh)]; exact e
        rw [fs.cell (cell_lt e3) (fun hh => hs.2.1 hh)]; exact e3
      · simp only [Option.some.injEq, Addr.mk.injEq, and_true] at hh
        subst hh
        rcases hg with hg | hg
        · exact hs.2.2.2 hg
        · omega
    intro x hx
    rcases List.mem_append.1 hx with hx | hx
    · exact key x (h6 x hx)
    · simp at hx; subst hx; exact key _ hr
  · refine (f2.toBelow (by omega) (fun j hj e => by have := (h3.blk e).1; omega)).trans (fs.toBelow (by omega) (fun j hj e => by omega))

theorem CSt.appU (h : CSt b d w C a pU U cU pX L cX) (hk : U.length ≤ 1000) (v : Int) :
    ∃ g' c' w2, (Builtin.append_ #[27, 27] 27 #[.slice pU U.length cU, .slice (some ⟨w.heap.size, 0, none⟩) 1 1]).run Yba.prog (w.alloc (.cells #[.int .i64 v] 3)) = .ok (.slice (some ⟨g', 0, none⟩) (U.length + 1) c') w2 ∧
      BoxAt w2 C a (.slice pU U.length cU) (.slice pX L.length cX) ∧ CSt b d (w2.setCell ⟨C, 1, none⟩ (.slice (some ⟨g', 0, none⟩) (U.length + 1) c')) C a (some ⟨g', 0, none⟩) (U ++ [v]) c' pX L cX ∧
      Below b w (w2.setCell ⟨C, 1, none⟩ (.slice (some ⟨g', 0, none⟩) (U.length + 1) c')) := by
  obtain ⟨h1, h2, h3, h4, h5, h6, h7⟩ := h
  have hlC := h1.lt
  obtain ⟨g', c', w2, r, o2, f2, hg, hlt⟩ := app_own w 27 3 1 8 _ Yba.underlying27 info3 rfl (by decide) (by decide) b pU U.length cU (U.map (Value.int .i64)) [.int .i64 v] h2 (by omega) (by omega) rfl (by
    intro u hu; simp at hu; subst hu; rfl)
  have b2 := h1.fr f2 (fun e => (h4 C e).1 rfl)
  have fs : Fr (fun j => j = C) w2 (w2.setCell ⟨C, 1, none⟩ (.slice (some ⟨g', 0, none⟩) (U.length + 1) c')) := (Fr.refl (fun j => j = C) w2).setCell rfl _
  have hg'C : g' ≠ C := by rcases hg with hg | hg; · exact (h4 _ hg).1
                           · omega
  have hXg : ∀ j, pX = some ⟨j, 0, none⟩ → j ≠ g' := by
    intro j e hj
    subst hj
    rcases hg with hg | hg
    · exact (h4 _ hg).2 e
    · have := (h3.blk e).2; omega
  refine ⟨g', c', w2, r, b2, ⟨by simpa using b2.set1 _, ?_, ?_, fun j e => by cases e; exact ⟨hg'C, fun hh => hXg _ hh rfl⟩, h5, ?_, h7⟩, ?_⟩
  · have := o2.fr fs (fun j o s e hh => by cases e; exact hg'C hh)
    simpa using this
  · refine (h3.fr f2 (fun j o s e hh => ?_)).fr fs (fun j o s e hh => ?_)
    · rcases h3.at with ⟨e2, _⟩ | ⟨g, e2, _⟩
      · rw [e2] at e; cases e
      · rw [e2] at e; cases e; exact (h4 _ hh).2 e2
    · rcases h3.at with ⟨e2, _⟩ | ⟨g, e2, _⟩
      · rw [e2] at e; cases e
      · rw [e2] at e; cases e; exact h5 _ e2 hh
  · intro x hx
    refine Rep.keep (fun ad v hs e => ?_) (fun j hj hs => ⟨hs.1, hs.2.1, fun hh => ?_, hs.2.2.2⟩) (Nat.le_refl _) d _ _ _ (h6 x hx)
    · have e3 : w2.cell? ad = some v := by rw [f2.cell (cell_lt e) (fun hh => hs.2.2.1 hh)]; exact e
      rw [fs.cell (cell_lt e3) (fun hh => hs.2.1 hh)]; exact e3
    · simp only [Option.some.injEq, Addr.mk.injEq, and_true] at hh
      subst hh
      rcases hg with hg | hg
      · exact hs.2.2.1 hg
      · omega
  · refine (f2.toBelow (by omega) (fun j hj e => by have := (h2.blk e).1; omega)).trans (fs.toBelow (by omega) (fun j hj e => by omega))
end

/-- behind 'c := QuorumSet{Threshold: .., Validators: slices.Clone(..)}' -/
def AftC (W4 W6 : World) (C : Nat) (a : Value) (q : Option Addr) (u : List Int) (c' : Nat) (d : Nat) : Prop := CSt W4.heap.size d W6 C a q u c' none [] 0 ∧ Below W4.heap.size W4 W6
theorem Own.base {w : World} {b b' e size n c : Nat} {p : Option Addr} {xs : List Value} (h : Own w b e size p n c xs) (hb : b' ≤ b) : Own w b' e size p n c xs := by
  refine ⟨h.1, ?_⟩
  rcases h.2 with h2 | ⟨g, cap, cur, e1, e2, e3⟩
  · exact .inl h2
  · exact .inr ⟨g, cap, cur, e1, Nat.le_trans hb e2, e3⟩
theorem aftcA {W4 w5 : World} {a : Value} {q : Option Addr} {u : List Int} {c' d : Nat} (hb : Below ((W4.alloc (.cells #[.int .u64 0, .slice none 0 0, .slice none 0 0] 30)).drew).heap.size ((W4.alloc (.cells #[.int .u64 0, .slice none 0 0, .slice none 0 0] 30)).drew) w5) (hr : Own w5 ((W4.alloc (.cells #[.int .u64 0, .slice none 0 0, .slice none 0 0] 30)).drew).heap.size 3 1 q u.length c' (u.map (Value.int .i64))) :
    AftC W4 (((w5.setCell ⟨W4.heap.size, 0, none⟩ a).setCell ⟨W4.heap.size, 1, none⟩ (.slice q u.length c')).setCell ⟨W4.heap.size, 2, none⟩ (.slice none 0 0)) W4.heap.size a q u c' d := by
  have hbx : BoxAt w5 W4.heap.size (.int .u64 0) (.slice none 0 0) (.slice none 0 0) := BoxAt.fr (w := (W4.alloc (.cells #[.int .u64 0, .slice none 0 0, .slice none 0 0] 30)).drew) (BoxAt.new W4 _ _ _) (Below.toFr hb) (fun e => e)
  have hf : Fr (fun j => j = W4.heap.size) w5 (((w5.setCell ⟨W4.heap.size, 0, none⟩ a).setCell ⟨W4.heap.size, 1, none⟩ (.slice q u.length c')).setCell ⟨W4.heap.size, 2, none⟩ (.slice none 0 0)) := ((((Fr.refl (fun j => j = W4.heap.size) w5).setCell (p := ⟨W4.heap.size, 0, none⟩) rfl _).setCell (p := ⟨W4.heap.size, 1, none⟩) rfl _).setCell (p := ⟨W4.heap.size, 2, none⟩) rfl _)
  have h45 : Below W4.heap.size W4 w5 := ((Below.refl _ W4).alloc (Nat.le_refl _) _).drew.trans (hb.mono (by simp))
  have hqC : ∀ j, q = some ⟨j, 0, none⟩ → j ≠ W4.heap.size := fun j e hh => by have := (hr.blk e).1; simp at this; omega
  refine ⟨⟨((hbx.set0 _).set1 _).set2 _, (hr.base (by simp)).fr hf (fun j o s e hh => ?_), Own.nil _ _ _ _, fun j e => ⟨hqC j e, fun hh => by cases hh⟩, (fun j e => by cases e), Elems.nil _ _ _ _, Nat.le_refl _⟩, h45.trans (hf.toBelow h45.size (fun k hk e => by omega))⟩
  rcases hr.at with ⟨e2, _⟩ | ⟨g, e2, hg, _⟩
  · rw [e2] at e; cases e
  · rw [e2] at e; cases e; exact hqC _ e2 hh
theorem aftcB {W4 w5 : World} {a : Value} {q : Option Addr} {u : List Int} {c' d : Nat} (hb : Below W4.drew.heap.size W4.drew w5) (hr : Own w5 W4.drew.heap.size 3 1 q u.length c' (u.map (Value.int .i64))) :
    AftC W4 (w5.alloc (.cells #[a, .slice q u.length c', .slice none 0 0] 30)) w5.heap.size a q u c' d := by
  have h45 : Below W4.heap.size W4 w5 := (Below.refl _ W4).drew.trans hb
  refine ⟨⟨BoxAt.new _ _ _ _, World.ownsRow.alloc hr _, Own.nil _ _ _ _, fun j e => ⟨fun hh => by have := (hr.blk e).2; omega, fun hh => by cases hh⟩, (fun j e => by cases e), Elems.nil _ _ _ _, h45.size⟩, h45.alloc h45.size _⟩
end Go.Proofs.Ybulkbciw
