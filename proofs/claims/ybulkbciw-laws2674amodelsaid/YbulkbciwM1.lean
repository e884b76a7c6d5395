/- trees of quorum sets in memory -/
import Derived.Test.YbulkbciwP1
import Derived.Test.YbulkbciwMem
import Derived.Sort.Grow
namespace Go.Proofs.Ybulkbciw
open Go.RowKit
set_option linter.unusedSimpArgs false
set_option linter.unusedVariables false

theorem cell_lt {w : World} {a : Addr} {v : Value} (h : w.cell? a = some v) : a.block < w.heap.size := World.block_lt_of_cell? w a h

/-- a row of ints, laid from its block's first cell on; S: what is known of the block -/
def IntRow (S : Nat → Prop) (w : World) (pu : Option Addr) (u : List Int) : Prop := u = [] ∨ ∃ b, pu = some ⟨b, 0, none⟩ ∧ S b ∧ ∀ i (h : i < u.length), w.cell? ⟨b, i, none⟩ = some (.int .i64 u[i])

/-- the cells of a quorum set's two rows hold the tree; no row has more than m elements -/
def Rep (S : Nat → Prop) (m : Nat) : (d : Nat) → World → Value → Value → T d → Prop
  | 0 => fun _ _ _ x => nomatch x
  | d + 1 => fun w vs is t => ∃ pu cu px cx, vs = .slice pu t.2.1.length cu ∧ is = .slice px t.2.2.length cx ∧ t.2.1.length ≤ m ∧ t.2.2.length ≤ m ∧ IntRow S w pu t.2.1 ∧
      (t.2.2 = [] ∨ ∃ b, px = some ⟨b, 0, none⟩ ∧ S b ∧ ∀ i (h : i < t.2.2.length), ∃ vs' is', w.cell? ⟨b, i * 3, none⟩ = some (.int .u64 (thr d t.2.2[i] : Nat)) ∧ w.cell? ⟨b, i * 3 + 1, none⟩ = some vs' ∧ w.cell? ⟨b, i * 3 + 2, none⟩ = some is' ∧ Rep S m d w vs' is' t.2.2[i])

theorem IntRow.keep {S S' : Nat → Prop} {w w' : World} {pu : Option Addr} {u : List Int} (h : IntRow S w pu u) (hk : ∀ a v, S a.block → w.cell? a = some v → w'.cell? a = some v) (hS : ∀ k, k < w.heap.size → S k → S' k) : IntRow S' w' pu u := by
  rcases h with h | ⟨b, e, hb, hc⟩
  · exact .inl h
  · by_cases h0 : u = []
    · exact .inl h0
    · refine .inr ⟨b, e, hS b ?_ hb, fun i hi => hk _ _ hb (hc i hi)⟩
      have := cell_lt (hc 0 (List.length_pos_iff.2 h0))
      exact this

/-- the one law of frames: what S's blocks held they hold still -/
theorem Rep.keep {S S' : Nat → Prop} {m m' : Nat} {w w' : World} (hk : ∀ a v, S a.block → w.cell? a = some v → w'.cell? a = some v) (hS : ∀ k, k < w.heap.size → S k → S' k) (hm : m ≤ m') :
    (d : Nat) → (vs is : Value) → (t : T d) → Rep S m d w vs is t → Rep S' m' d w' vs is t
  | 0, _, _, t, _ => nomatch t
  | d + 1, vs, is, t, h => by
    obtain ⟨pu, cu, px, cx, e1, e2, l1, l2, hu, hx⟩ := h
    refine ⟨pu, cu, px, cx, e1, e2, Nat.le_trans l1 hm, Nat.le_trans l2 hm, hu.keep hk hS, ?_⟩
    rcases hx with hx | ⟨b, e, hb, hc⟩
    · exact .inl hx
    · by_cases h0 : t.2.2 = []
      · exact .inl h0
      · refine .inr ⟨b, e, hS b ?_ hb, fun i hi => ?_⟩
        · obtain ⟨_, _, c1, _⟩ := hc 0 (List.length_pos_iff.2 h0)
          exact cell_lt c1
        · obtain ⟨vs', is', c1, c2, c3, hr⟩ := hc i hi
          exact ⟨vs', is', hk _ _ hb c1, hk _ _ hb c2, hk _ _ hb c3, Rep.keep hk hS hm d vs' is' _ hr⟩

theorem Rep.below {S : Nat → Prop} {m d : Nat} {w w' : World} {vs is : Value} {t : T d} (h : Rep S m d w vs is t) (hb : Below w.heap.size w w') : Rep S m d w' vs is t :=
  Rep.keep (fun a v _ e => by have hlt := cell_lt e; rw [World.cell?_of_block (w := w) (hb.block a.block hlt)]; exact e) (fun _ _ e => e) (Nat.le_refl _) d vs is t h
theorem Rep.fr {S R : Nat → Prop} {m d : Nat} {w w' : World} {vs is : Value} {t : T d} (h : Rep S m d w vs is t) (hf : Fr R w w') (hS : ∀ k, S k → ¬ R k) : Rep S m d w' vs is t :=
  Rep.keep (fun a v hs e => by rw [hf.cell (cell_lt e) (hS _ hs)]; exact e) (fun _ _ e => e) (Nat.le_refl _) d vs is t h
theorem Rep.mono {S S' : Nat → Prop} {m m' d : Nat} {w : World} {vs is : Value} {t : T d} (h : Rep S m d w vs is t) (hS : ∀ k, k < w.heap.size → S k → S' k) (hm : m ≤ m') : Rep S' m' d w vs is t :=
  Rep.keep (fun _ _ _ e => e) hS hm d vs is t h

theorem Rep.up {S : Nat → Prop} {m : Nat} {w : World} : (d : Nat) → (vs is : Value) → (t : T d) → Rep S m d w vs is t → Rep S m (d + 1) w vs is (up d t)
  | 0, _, _, t, _ => nomatch t
  | d + 1, vs, is, t, h => by
    obtain ⟨pu, cu, px, cx, e1, e2, l1, l2, hu, hx⟩ := h
    have hl : (t.2.2.map (Ybulkbciw.up d)).length = t.2.2.length := List.length_map ..
    refine ⟨pu, cu, px, cx, e1, by show is = .slice px (t.2.2.map (Ybulkbciw.up d)).length cx; rw [hl]; exact e2, l1, by show (t.2.2.map (Ybulkbciw.up d)).length ≤ m; rw [hl]; exact l2, hu, ?_⟩
    rcases hx with hx | ⟨b, e, hb, hc⟩
    · exact .inl (by show t.2.2.map (Ybulkbciw.up d) = []; rw [hx]; rfl)
    · refine .inr ⟨b, e, hb, fun i hi => ?_⟩
      have hi' : i < t.2.2.length := by rw [← hl]; exact hi
      obtain ⟨vs', is', c1, c2, c3, hr⟩ := hc i hi'
      have he : (Ybulkbciw.up (d + 1) t).2.2[i]'hi = Ybulkbciw.up d (t.2.2[i]'hi') := List.getElem_map _
      refine ⟨vs', is', ?_, c2, c3, ?_⟩
      · rw [he, thr_up]; exact c1
      · rw [he]; exact Rep.up d vs' is' _ hr

/-- draws and new blocks alone -/
def Grw (w w' : World) : Prop := ∃ q os, w' = Go.Sort.grow (w.drewN q) os
open Go.Sort in
theorem Grw.refl (w : World) : Grw w w := ⟨0, #[], by simp [World.drewN]⟩
open Go.Sort in
theorem Grw.trans {a b c : World} (h : Grw a b) (k : Grw b c) : Grw a c := by
  obtain ⟨q, os, rfl⟩ := h
  obtain ⟨q', os', rfl⟩ := k
  exact ⟨q + q', os ++ os', by simp [grow, World.drewN, Array.append_assoc, Nat.add_assoc]⟩
open Go.Sort in
theorem Grw.alloc {a b : World} (h : Grw a b) (o : Obj) : Grw a (b.alloc o) := by
  refine h.trans ⟨0, #[o], ?_⟩
  rw [alloc_eq_grow]
  simp [World.drewN]
theorem Grw.drewN {a b : World} (h : Grw a b) (n : Nat) : Grw a (b.drewN n) := h.trans ⟨n, #[], by simp⟩
theorem Grw.below {a b : World} (h : Grw a b) : Below a.heap.size a b := by
  obtain ⟨q, os, rfl⟩ := h
  refine ⟨rfl, rfl, rfl, by simp [Go.Sort.grow, World.drewN], fun k hk => ?_⟩
  simp [Go.Sort.grow, World.drewN, Array.getElem?_append, hk]
end Go.Proofs.Ybulkbciw
