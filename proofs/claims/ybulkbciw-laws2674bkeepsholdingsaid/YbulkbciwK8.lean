import Derived.Test.YbulkbciwK7
import Derived.Test.YbulkbciwShelf
namespace Go.Proofs.Ybulkbciw
open Go.RowKit
set_option linter.unusedSimpArgs false
set_option linter.unusedVariables false

open Go.Sort in
theorem putFr {α : Type} [Inhabited α] (enc : α → Value) (w : World) (g off n : Nat) (d : Array α) (os : Array Obj) : Fr (fun j => j = g) w (grow (putRow enc (Sort.ahead w n) g off d) os) := by
  refine ⟨rfl, rfl, rfl, by simp, fun k hk hne => ?_⟩
  rw [heap_grow_old _ _ (by simpa using hk)]
  have : g ≠ k := fun e => hne e.symm
  simp [putRow, mapBlock, Sort.ahead, Array.getElem?_modify, this]

open Go.Sort in
theorem Own.holds {w : World} {base : Nat} {p : Option Addr} {n c g : Nat} {u : List Int} (h : Own w base 3 1 p n c (u.map (Value.int .i64))) (e : p = some ⟨g, 0, none⟩) : Holds (Value.int .i64) w g 0 u.toArray := by
  rcases h.at with ⟨e2, _⟩ | ⟨g', e2, _, _, hc, hf⟩
  · rw [e2] at e; cases e
  · rw [e2] at e; cases e
    intro j hj
    have hj' : j < u.length := by simpa using hj
    rw [Nat.zero_add]
    exact ⟨hc j _ (by simp [hj']), hf j⟩

open Go.Sort in
theorem sort30 {w : World} {base : Nat} {p : Option Addr} {n c : Nat} {u : List Int} (h : Own w base 3 1 p n c (u.map (Value.int .i64))) (hn : u.length = n) (hm : n ≤ 1000) :
    Calls Yba.prog 30 #[.slice p n c] w fun e w' => e = .returned (.tuple #[]) ∧ ∃ u', u'.Perm u ∧ IntRow (fun k => base ≤ k) w' p u' ∧ Fr (fun j => p = some ⟨j, 0, none⟩) w w' := by
  by_cases h0 : n = 0
  · subst h0
    have hcon := Any.slices_Sort_int_none Yba.lS p c w
    change Calls Yba.prog 30 _ _ _ at hcon
    refine hcon.mono ?_
    rintro e w' ⟨rfl, rfl⟩
    exact ⟨rfl, u, List.Perm.refl _, h.ints, Fr.refl _ _⟩
  · rcases h.at with ⟨_, e0, _⟩ | ⟨g, e, hb, hlt, _, _⟩
    · omega
    · subst e
      subst hn
      have hcon := Any.slices_Sort_int Yba.lS g 0 c u w (h.holds rfl) hlt (by omega)
      change Calls Yba.prog 30 _ _ _ at hcon
      refine hcon.mono ?_
      rintro e w' ⟨rfl, m, os, rfl⟩
      refine ⟨rfl, u.mergeSort fun x y => decide (x ≤ y), List.mergeSort_perm _ _, .inr ⟨g, rfl, hb, fun i hi => ?_⟩, (putFr _ _ _ _ _ _ _).mono (fun j _ e => by rw [e])⟩
      have hh := cell?_putRow (Value.int .i64) (Sort.ahead w m) g 0 u.toArray (u.mergeSort fun x y => decide (x ≤ y)).toArray (h.holds rfl) (by simp) i (by simpa using hi)
      rw [cell?_grow _ _ _ (by simpa using hlt)]
      rw [Nat.zero_add] at hh
      rw [hh]
      generalize (u.mergeSort fun x y => decide (x ≤ y)) = u2 at hi ⊢
      simp [hi]

/-- the row's cells hold the list's elements -/
def RowHas (d : Nat) (w : World) (g : Nat) (L : List (El d)) : Prop := ∀ i (h : i < L.length), w.cell? ⟨g, i * 3, none⟩ = some (.int .u64 (thr d L[i].2.2 : Nat)) ∧ w.cell? ⟨g, i * 3 + 1, none⟩ = some L[i].1 ∧ w.cell? ⟨g, i * 3 + 2, none⟩ = some L[i].2.1

theorem isAgg30' : ∀ w, (isAgg 30).run Yba.prog w = .ok true w := Yba.isAgg30
theorem sizeOf30' : ∀ w, (Go.sizeOf 30).run Yba.prog w = .ok 3 w := Yba.sizeOf30

open Go.Sort Go.Shelf in
theorem sort31 {d n : Nat} {w : World} {base : Nat} {p : Option Addr} {k c : Nat} {L : List (El d)} (h : Own w base 30 3 p k c (cellsOf d L)) (hn : L.length = k) (hm : k ≤ 1000) (hE : Elems (SE n p) 512 d w L) :
    Calls Yba.prog 31 #[.slice p k c, .func (.func 32) #[] #[]] w fun e w' => e = .returned (.tuple #[]) ∧ ∃ L' : List (El d), L'.Perm L ∧ (L' = [] ∨ ∃ g, p = some ⟨g, 0, none⟩ ∧ base ≤ g ∧ RowHas d w' g L') ∧ Elems (SE n p) 512 d w' L' ∧ Fr (fun j => p = some ⟨j, 0, none⟩) w w' := by
  by_cases h0 : k = 0
  · subst h0
    have hcon := AnyF.slices_SortFunc_none Yba.lSF p c (.func (.func 32) #[] #[]) w
    change Calls Yba.prog 31 _ _ _ at hcon
    refine hcon.mono ?_
    rintro e w' ⟨rfl, rfl⟩
    exact ⟨rfl, L, List.Perm.refl _, .inl (List.length_eq_zero_iff.1 hn), hE, Fr.refl _ _⟩
  · rcases h.at with ⟨_, e0, _⟩ | ⟨g, e, hb, hlt, hc, hf⟩
    · omega
    · subst e
      subst hn
      let α := { e : El d // Rep (SE n (some ⟨g, 0, none⟩)) 512 d w e.1 e.2.1 e.2.2 }
      let LA : List α := L.attach.map (fun e => ⟨e.1, hE e.1 e.2⟩)
      have hLA : LA.map (fun e => e.1) = L := by
        show (L.attach.map _).map _ = L
        rw [List.map_map]
        exact List.attach_map_subtype_val L
      have hlen : LA.length = L.length := by simp [LA]
      haveI : Inhabited α := ⟨LA[0]'(by omega)⟩
      let enc : α → List Value := fun x => encE d x.1
      have hkept : ∀ (m : Nat) (dk : Array α) (os : Array Obj) (x : α), Rep (SE n (some ⟨g, 0, none⟩)) 512 d (sortWorldK enc 3 w g 0 m dk os) x.1.1 x.1.2.1 x.1.2.2 := fun m dk os x =>
        x.2.fr (putFr id w g 0 m (flatK enc 3 dk) os) (fun j hs e => hs.2 (by rw [e]))
      have hcmp : CmpLays Yba.prog 32 #[] enc 3 (fun x y : α => cI (cmpT d x.1.2.2 y.1.2.2)) g 0 LA.toArray.size w := by
        intro m os dk _ x y
        exact cmp32 (SE n (some ⟨g, 0, none⟩)) (by decide) d _ _ _ _ _ _ _ (hkept m dk os x) (hkept m dk os y)
      have hget : ∀ (L2 : List α) (i : Nat) (hi : i < L2.length), L2.toArray[i]! = L2[i] := by intro L2 i hi; simp [hi]
      have hH : HoldsK enc 3 w g 0 LA.toArray := by
        intro t ht
        have ht' : t < LA.length * 3 := by simpa using ht
        rw [Nat.zero_add]
        refine ⟨?_, hf t⟩
        rw [get_flatK enc 3 LA.toArray t (by simpa using ht'), hget LA (t / 3) (by omega)]
        have hi : t / 3 < L.length := by omega
        have hL : (LA[t / 3]'(by omega)).1 = L[t / 3] := by
          have : (LA.map (fun e => e.1))[t / 3]'(by rw [List.length_map]; omega) = L[t / 3] := by simp only [hLA]
          rw [List.getElem_map] at this
          exact this
        show w.cell? ⟨g, t, none⟩ = some ((encE d (LA[t / 3]'(by omega)).1)[t % 3]!)
        rw [hL]
        have key2 : ∀ q r (hq : q < L.length), r < 3 → w.cell? ⟨g, q * 3 + r, none⟩ = some ((encE d L[q])[r]!) := by
          intro q r hq hr
          obtain ⟨c1, c2, c3⟩ := cellsOf_get d L q hq
          match r, hr with
          | 0, _ => exact hc _ _ c1
          | 1, _ => exact hc _ _ c2
          | 2, _ => exact hc _ _ c3
        have h5 := key2 (t / 3) (t % 3) hi (Nat.mod_lt _ (by decide))
        rwa [show t / 3 * 3 + t % 3 = t by omega] at h5
      have hcon := AnyQ.slices_SortFunc Yba.lSF 3 isAgg30' sizeOf30' enc (fun _ => rfl) (fun x v hv => by
        obtain ⟨a1, a2, a3, a4, a5, a6, e1, e2⟩ := Rep.slices d _ _ _ x.2
        simp only [enc, encE, List.mem_cons, List.not_mem_nil, or_false] at hv
        rcases hv with rfl | rfl | rfl
        · rfl
        · rw [e1]; rfl
        · rw [e2]; rfl) (fun x y : α => cI (cmpT d x.1.2.2 y.1.2.2)) (swoT d (fun x : α => x.1.2.2)) 32 #[] g 0 c LA.toArray w (enters_of Yba.func32 (by kernel_rfl) rfl) hcmp hH hlt (by simp [hlen]; omega)
      change Calls Yba.prog 31 _ _ _ at hcon
      rw [List.size_toArray, hlen] at hcon
      refine hcon.mono ?_
      rintro e w' ⟨rfl, d', m, os, hp, _, rfl⟩
      have hds : d'.size = LA.length := by have := hp.1; simpa using this
      have hperm : d'.toList.Perm LA := by
        have h5 := hp.2.2
        simp only [Array.toList_extract, List.extract, Nat.sub_zero, List.drop_zero] at h5
        rw [List.take_of_length_le (by simp [hds, hlen]), List.take_of_length_le (by simp [hlen])] at h5
        exact h5
      refine ⟨rfl, d'.toList.map (fun e => e.1), by rw [← hLA]; exact hperm.map _, .inr ⟨g, rfl, hb, fun i hi => ?_⟩, ?_, (putFr id w g 0 m (flatK enc 3 d') os).mono (fun j _ e => by rw [e])⟩
      · have hi' : i < d'.size := by simpa using hi
        have key : ∀ t, t < d'.size * 3 → (sortWorldK enc 3 w g 0 m d' os).cell? ⟨g, t, none⟩ = some ((encE d (d'[t / 3]!).1)[t % 3]!) := by
          intro t ht
          have hh := cell?_putRow id (Sort.ahead w m) g 0 (flatK enc 3 LA.toArray) (flatK enc 3 d') hH (by simp [hds]) t (by simpa using ht)
          rw [Nat.zero_add, get_flatK enc 3 d' t ht] at hh
          show (grow (putRow id (Sort.ahead w m) g 0 (flatK enc 3 d')) os).cell? _ = _
          rw [cell?_grow _ _ _ (by simpa using hlt)]
          exact hh
        have e1 := key (i * 3) (by omega)
        have e2 := key (i * 3 + 1) (by omega)
        have e3 := key (i * 3 + 2) (by omega)
        rw [show i * 3 / 3 = i by omega, show i * 3 % 3 = 0 by omega] at e1
        rw [show (i * 3 + 1) / 3 = i by omega, show (i * 3 + 1) % 3 = 1 by omega] at e2
        rw [show (i * 3 + 2) / 3 = i by omega, show (i * 3 + 2) % 3 = 2 by omega] at e3
        have hg : (d'.toList.map (fun e : α => e.1))[i]'hi = (d'[i]!).1 := by
          rw [List.getElem_map]
          simp [hi']
        rw [hg]
        exact ⟨e1, e2, e3⟩
      · intro e he
        obtain ⟨x, hx, rfl⟩ := List.mem_map.1 he
        exact hkept m d' os x

set_option maxHeartbeats 400000 in
set_option maxRecDepth 100000 in
theorem clone29 {S : Nat → Prop} (pu : Option Addr) (cu : Nat) (u : List Int) (w : World) (h : IntRow S w pu u) (hu : u.length ≤ 1000) :
    Calls Yba.prog 29 #[.slice pu u.length cu] w fun e w' => ∃ q c', e = .returned (.slice q u.length c') ∧ Own w' w.heap.size 3 1 q u.length c' (u.map (Value.int .i64)) ∧ Below w.heap.size w w' := by
  have q27 : ∀ (w : World) (a : Option Addr) (n c n' c' : Nat), (binOp .eql 27 (.slice a n c) (.slice none n' c')).run Yba.prog w = .ok (.bool a.isNone) w := fun w a n c n' c' => Lib.run_eql_slice_nil w _ _ a n c n' c' Yba.underlying27
  cases pu with
  | none =>
    have h0 : u = [] := by rcases h with h | ⟨b, e, _⟩; · exact h
                           · cases e
    subst h0
    go_enter Yba.func29, Yba.ntmps29
    go_wp2
    go_ret
    exact ⟨none, 0, rfl, Own.nil _ _ _ _, Below.refl _ _⟩
  | some ad =>
    obtain ⟨i0, hi0, hz⟩ := Option.map_eq_some_iff.1 info3
    simp only [Prod.mk.injEq] at hz
    have hown : (w.alloc (.cells #[] 3)).ownsRow w.heap.size 3 1 (.slice (some ⟨w.heap.size, 0, none⟩) 0 0) 0 [] := ⟨rfl, .inr ⟨w.heap.size, 0, #[], rfl, Nat.le_refl _, heap_alloc_new w _, Nat.le_refl _, by unfold maxLen; omega, rfl, rfl⟩⟩
    have hc : ∀ j v, (u.map (Value.int .i64))[j]? = some v → (w.alloc (.cells #[] 3)).cell? (ad.add j) = some v := by
      intro j v hj
      have hjl : j < u.length := by have := (List.getElem?_eq_some_iff.1 hj).1; simpa using this
      rcases h with h | ⟨b, e, _, hc⟩
      · rw [h] at hjl; simp at hjl
      · cases e
        rw [add_none, Nat.zero_add]
        refine cell_al ?_ _
        rw [hc j hjl, ← hj]
        simp [hjl]
    obtain ⟨v', w', hr, h2, h3, h4⟩ := run_append_own (P := Yba.prog) (w.alloc (.cells #[] 3)) w.heap.size 27 27 3 i0 (.int .i64 0) 1 8 Yba.underlying27 hi0 hz.1 hz.2.1 hz.2.2 rfl (by decide) (.slice (some ⟨w.heap.size, 0, none⟩) 0 0) 0 [] hown ad u.length cu (u.map (Value.int .i64)) (by simp) hc (by intro x hx; simp at hx; obtain ⟨y, _, rfl⟩ := hx; rfl) (by unfold maxLen; omega) (by omega) (by simp)
    obtain ⟨q, c', rfl⟩ : ∃ q c', v' = .slice q u.length c' := by
      rcases h2.2 with ⟨e, e0⟩ | ⟨g, cap, cur, e, _⟩
      · exact ⟨none, 0, by rw [e]; simp at e0; simp [e0]⟩
      · exact ⟨some ⟨g, 0, none⟩, cap, by rw [e]; simp⟩
    have HR : Hid _ := hr
    have HO : Hid (Own w' w.heap.size 3 1 q u.length c' (u.map (Value.int .i64)) ∧ Below w.heap.size w w') := ⟨by simpa [Own] using h2, ((Below.refl _ w).alloc (Nat.le_refl _) _).grown h3 (by simp) (fun j e => by simp [Value.ownBlock] at e; omega)⟩
    clear hr h2 h3 h4 hc hown h hz
    generalize u.length = n at *
    go_enter Yba.func29, Yba.ntmps29
    go_wp2_with (at_builtin; refine Lib.wpList_append_run _ rfl _ _ 27 27 rfl _ _ rfl rfl _ _ HR.out ?_)
    go_ret
    exact ⟨q, c', rfl, HO.out.1, HO.out.2⟩
end Go.Proofs.Ybulkbciw
