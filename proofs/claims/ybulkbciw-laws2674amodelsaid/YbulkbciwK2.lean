import Derived.Test.YbulkbciwK1
namespace Go.Proofs.Ybulkbciw
open Go.RowKit
set_option linter.unusedSimpArgs false
set_option linter.unusedVariables false

/-- a row of quorum sets, three cells each -/
def SetRow (S : Nat → Prop) (m d : Nat) (w : World) (px : Option Addr) (x : List (T d)) : Prop :=
  x = [] ∨ ∃ b, px = some ⟨b, 0, none⟩ ∧ S b ∧ ∀ i (h : i < x.length), ∃ vs' is', w.cell? ⟨b, i * 3, none⟩ = some (.int .u64 (thr d x[i] : Nat)) ∧ w.cell? ⟨b, i * 3 + 1, none⟩ = some vs' ∧ w.cell? ⟨b, i * 3 + 2, none⟩ = some is' ∧ Rep S m d w vs' is' x[i]

theorem SetRow.below {S : Nat → Prop} {m d : Nat} {w w' : World} {px : Option Addr} {x : List (T d)} (h : SetRow S m d w px x) (hb : Below w.heap.size w w') : SetRow S m d w' px x := by
  rcases h with h | ⟨b, e, hS, hc⟩
  · exact .inl h
  · refine .inr ⟨b, e, hS, fun i hi => ?_⟩
    obtain ⟨vs', is', c1, c2, c3, hr⟩ := hc i hi
    have hk : ∀ a v, w.cell? a = some v → w'.cell? a = some v := fun a v e => by have hlt := cell_lt e; rw [World.cell?_of_block (w := w) (hb.block a.block hlt)]; exact e
    exact ⟨vs', is', hk _ _ c1, hk _ _ c2, hk _ _ c3, hr.below hb⟩

theorem Rep.slices {S : Nat → Prop} {m : Nat} {w : World} : (d : Nat) → (vs is : Value) → (t : T d) → Rep S m d w vs is t → ∃ pu nu cu px nx cx, vs = .slice pu nu cu ∧ is = .slice px nx cx
  | 0, _, _, t, _ => nomatch t
  | d + 1, vs, is, t, ⟨pu, cu, px, cx, e1, e2, _⟩ => ⟨pu, _, cu, px, _, cx, e1, e2⟩

theorem cell_al {w : World} {a : Addr} {v : Value} (h : w.cell? a = some v) (o : Obj) : (w.alloc o).cell? a = some v := by
  rw [World.cell?_of_block (w := w) (Below.heap_alloc w o a.block (cell_lt h))]; exact h

/-- what is said of compareQuorumSets at trees d deep -/
def Cmp32 (S : Nat → Prop) (m d : Nat) : Prop := ∀ (w : World) (vs is vs' is' : Value) (t t' : T d), Rep S m d w vs is t → Rep S m d w vs' is' t' →
  Calls Yba.prog 32 #[.agg #[.int .u64 (thr d t : Nat), vs, is], .agg #[.int .u64 (thr d t' : Nat), vs', is']] w fun e w' => e = .returned (.int .i64 (cI (cmpT d t t'))) ∧ Grw w w'

set_option maxHeartbeats 1000000 in
theorem cmp44 {S : Nat → Prop} {m d : Nat} (ih : Cmp32 S m d) (px py : Option Addr) (cx cy : Nat) (x y : List (T d)) (w : World) (hx : SetRow S m d w px x) (hy : SetRow S m d w py y) (lx : x.length ≤ 9223372036854775807) (ly : y.length ≤ 9223372036854775807) :
    Calls Yba.prog 44 #[.slice px x.length cx, .slice py y.length cy, .func (.func 32) #[] #[]] w fun e w' => e = .returned (.int .i64 (cI (List.compareLex (cmpT d) x y))) ∧ Grw w w' := by
  obtain ⟨nu, hnu⟩ : ∃ n, x.length = n := ⟨_, rfl⟩
  obtain ⟨nv, hnv⟩ : ∃ n, y.length = n := ⟨_, rfl⟩
  obtain ⟨R, hR⟩ : ∃ R, List.compareLex (cmpT d) x y = R := ⟨_, rfl⟩
  have HU : Hid (SetRow S m d w px x ∧ SetRow S m d w py y ∧ x.length = nu ∧ y.length = nv ∧ List.compareLex (cmpT d) x y = R ∧ Cmp32 S m d) := ⟨hx, hy, hnu, hnv, hR, ih⟩
  rw [hnu] at lx ⊢
  rw [hnv] at ly ⊢
  rw [hR]
  clear hx hy hnu hnv hR ih
  go_enter Yba.func44, Yba.ntmps44
  go_wp2
  go_loopw [13] (fun i wr => ∃ k : Nat, i = .int .i64 k ∧ k ≤ nu ∧ k ≤ nv ∧ Grw w wr ∧ List.compareLex (cmpT d) (x.drop k) (y.drop k) = R) (fun i _ => nu - (intOf i).toNat)
  case atStart => exact ⟨0, rfl, Nat.zero_le _, Nat.zero_le _, Grw.refl _, HU.out.2.2.2.2.1⟩
  case round =>
    obtain ⟨k, rfl, hk, hkv, hg, hrest⟩ := hrel
    have HR : Hid (List.compareLex (cmpT d) (x.drop k) (y.drop k) = R ∧ Grw w wr) := ⟨hrest, hg⟩
    have h1 := HU.out.1.below hg.below
    have h2 := HU.out.2.1.below hg.below
    clear hrest hg
    by_cases hlt : k < nu
    · have hlu : k < x.length := by have := HU.out.2.2.1; omega
      rcases h1 with h1 | ⟨b, rfl, _, hc⟩
      · rw [h1] at hlu; simp at hlu
      · obtain ⟨vs, is, a1, a2, a3, hr1⟩ := hc k hlu
        clear hc
        obtain ⟨q1, q2, q3, q4, q5, q6, rfl, rfl⟩ := Rep.slices d _ _ _ hr1
        by_cases hltv : k < nv
        · have hlv : k < y.length := by have := HU.out.2.2.2.1; omega
          rcases h2 with h2 | ⟨b2, rfl, _, hc2⟩
          · rw [h2] at hlv; simp at hlv
          · obtain ⟨vs', is', b1, b2', b3, hr2⟩ := hc2 k hlv
            clear hc2
            obtain ⟨r1, r2, r3, r4, r5, r6, rfl, rfl⟩ := Rep.slices d _ _ _ hr2
            have HL2 : Hid (_ = _) := lex_at (cmpT d) x y k hlu hlv
            have HC : Hid (Rep S m d wr (.slice q1 q2 q3) (.slice q4 q5 q6) x[k] ∧ Rep S m d wr (.slice r1 r2 r3) (.slice r4 r5 r6) y[k]) := ⟨hr1, hr2⟩
            clear hr1 hr2
            generalize x[k] = t at a1 HL2 HC
            generalize y[k] = t' at b1 HL2 HC
            obtain ⟨n1, hn1⟩ : ∃ n, thr d t = n := ⟨_, rfl⟩
            obtain ⟨n2, hn2⟩ : ∃ n, thr d t' = n := ⟨_, rfl⟩
            have HN : Hid (thr d t = n1 ∧ thr d t' = n2) := ⟨hn1, hn2⟩
            rw [hn1] at a1
            rw [hn2] at b1
            clear hn1 hn2
            have d1 := cell_al b1
            have d2 := cell_al b2'
            have d3 := cell_al b3
            go_wp2_with (go_at_call 32; fail)
            have hcon := HU.out.2.2.2.2.2 _ _ _ _ _ t t' (HC.out.1.below (((Below.refl _ wr).alloc (Nat.le_refl _) (.cells #[.int .u64 n1, .slice q1 q2 q3, .slice q4 q5 q6] 30)).alloc (by simp) (.cells #[.int .u64 n2, .slice r1 r2 r3, .slice r4 r5 r6] 30))) (HC.out.2.below (((Below.refl _ wr).alloc (Nat.le_refl _) (.cells #[.int .u64 n1, .slice q1 q2 q3, .slice q4 q5 q6] 30)).alloc (by simp) (.cells #[.int .u64 n2, .slice r1 r2 r3, .slice r4 r5 r6] 30)))
            rw [HN.out.1, HN.out.2] at hcon
            refine hcon.mono ?_
            clear hcon d1 d2 d3 a1 a2 a3 b1 b2' b3
            obtain ⟨c, hc⟩ : ∃ c, cmpT d t t' = c := ⟨_, rfl⟩
            rw [hc]
            rintro e w2 ⟨rfl, hg2⟩
            have HG : Hid (Grw w w2) := ((HR.out.2.alloc _).alloc _).trans hg2
            have HC2 : Hid (cmpT d t t' = c) := hc
            clear hg2 hc
            cases c with
            | lt =>
              obtain rfl : R = .lt := by rw [← HR.out.1, HL2.out, HC2.out]; rfl
              go_wp2
              go_ret
              exact ⟨rfl, HG.out⟩
            | gt =>
              obtain rfl : R = .gt := by rw [← HR.out.1, HL2.out, HC2.out]; rfl
              go_wp2
              go_ret
              exact ⟨rfl, HG.out⟩
            | eq =>
              have HR2 : Hid (List.compareLex (cmpT d) (x.drop (k + 1)) (y.drop (k + 1)) = R) := by unfold Hid; rw [← HR.out.1, HL2.out, HC2.out]; rfl
              go_wp2
              go_roundw
              case rel => exact ⟨k + 1, by go_num, by omega, by omega, HG.out, HR2.out⟩
              case measure => simp [intOf]; omega
        · obtain rfl : R = .gt := by rw [← HR.out.1]; exact lex_gt _ _ _ _ hlu (by have := HU.out.2.2.2.1; omega)
          clear h2
          go_wp2
          go_ret
          exact ⟨rfl, HR.out.2.alloc _⟩
    · by_cases hltv : k < nv
      · obtain rfl : R = .lt := by rw [← HR.out.1]; exact lex_lt _ _ _ _ (by have := HU.out; omega) (by have := HU.out; omega)
        clear h1 h2
        go_wp2
        go_ret
        exact ⟨rfl, HR.out.2⟩
      · obtain rfl : R = .eq := by rw [← HR.out.1]; exact lex_eq _ _ _ _ (by have := HU.out; omega) (by have := HU.out; omega)
        clear h1 h2
        go_wp2
        go_ret
        exact ⟨rfl, HR.out.2⟩

theorem Cmp32.zero (S : Nat → Prop) (m : Nat) : Cmp32 S m 0 := fun _ _ _ _ _ t => nomatch t

set_option maxHeartbeats 1000000 in
theorem Cmp32.succ {S : Nat → Prop} {m d : Nat} (hm : m ≤ 9223372036854775807) (ih : Cmp32 S m d) : Cmp32 S m (d + 1) := by
  rintro w vs is vs' is' ⟨a, u, x⟩ ⟨a', u', x'⟩ ⟨pu, cu, px, cx, rfl, rfl, l1, l2, hu, hx⟩ ⟨pu', cu', px', cx', rfl, rfl, l1', l2', hu', hx'⟩
  simp only at l1 l2 hu hx l1' l2' hu' hx' ⊢
  have HU : Hid (IntRow S w pu u ∧ IntRow S w pu' u' ∧ SetRow S m d w px x ∧ SetRow S m d w px' x' ∧ Cmp32 S m d) := ⟨hu, hu', hx, hx', ih⟩
  clear hu hu' hx hx' ih
  obtain ⟨R, hR⟩ : ∃ R, cmpT (d + 1) (a, u, x) (a', u', x') = R := ⟨_, rfl⟩
  rw [hR]
  have HR : Hid ((compare a a').then ((List.compareLex compare u u').then (List.compareLex (cmpT d) x x')) = R) := hR
  clear hR
  show Calls Yba.prog 32 #[.agg #[.int .u64 (a : Nat), .slice pu u.length cu, .slice px x.length cx], .agg #[.int .u64 (a' : Nat), .slice pu' u'.length cu', .slice px' x'.length cx']] w _
  have Hc := fun W hb => cmp43 pu pu' cu cu' u u' W (HU.out.1.keep (fun a v _ e => by have hlt := cell_lt e; rw [World.cell?_of_block (w := w) ((hb : Below w.heap.size w W).block a.block hlt)]; exact e) (fun _ _ e => e)) (HU.out.2.1.keep (fun a v _ e => by have hlt := cell_lt e; rw [World.cell?_of_block (w := w) ((hb : Below w.heap.size w W).block a.block hlt)]; exact e) (fun _ _ e => e)) (by omega) (by omega)
  have Hd := fun W hb => cmp44 HU.out.2.2.2.2 px px' cx cx' x x' W (HU.out.2.2.1.below hb) (HU.out.2.2.2.1.below hb) (by omega) (by omega)
  have hb2 : ∀ o o' : Obj, Below w.heap.size w ((w.alloc o).alloc o') := fun o o' => ((Below.refl _ w).alloc (Nat.le_refl _) o).alloc (by simp) o'
  have HC : Hid (_ ∧ _ ∧ _) := ⟨fun o o' => Hc _ (hb2 o o'), fun o o' => Hd _ (hb2 o o'), hb2⟩
  clear Hc Hd hb2
  cases h1 : compare a a' with
  | lt =>
    obtain rfl : R = .lt := by rw [← HR.out, h1]; rfl
    go_enter Yba.func32, Yba.ntmps32
    go_wp2_with (go_at_call 42; refine (cmp42 a a' _).mono ?_; rw [h1]; rintro e w2 ⟨rfl, e2⟩; obtain rfl := e2.symm)
    go_ret
    exact ⟨rfl, ((Grw.refl w).alloc _).alloc _⟩
  | gt =>
    obtain rfl : R = .gt := by rw [← HR.out, h1]; rfl
    go_enter Yba.func32, Yba.ntmps32
    go_wp2_with (go_at_call 42; refine (cmp42 a a' _).mono ?_; rw [h1]; rintro e w2 ⟨rfl, e2⟩; obtain rfl := e2.symm)
    go_ret
    exact ⟨rfl, ((Grw.refl w).alloc _).alloc _⟩
  | eq =>
    have HR2 : Hid ((List.compareLex compare u u').then (List.compareLex (cmpT d) x x') = R) := by unfold Hid; rw [← HR.out, h1]; rfl
    clear HR
    cases h2 : List.compareLex compare u u' with
    | lt =>
      obtain rfl : R = .lt := by rw [← HR2.out, h2]; rfl
      go_enter Yba.func32, Yba.ntmps32
      go_wp2_with (first
        | (go_at_call 42; refine (cmp42 a a' _).mono ?_; rw [h1]; rintro e w2 ⟨rfl, e2⟩; obtain rfl := e2.symm)
        | (go_at_call 43; refine (HC.out.1 _ _).mono ?_; rw [h2]; rintro e w2 ⟨rfl, e2⟩; obtain rfl := e2.symm))
      go_ret
      exact ⟨rfl, ((Grw.refl w).alloc _).alloc _⟩
    | gt =>
      obtain rfl : R = .gt := by rw [← HR2.out, h2]; rfl
      go_enter Yba.func32, Yba.ntmps32
      go_wp2_with (first
        | (go_at_call 42; refine (cmp42 a a' _).mono ?_; rw [h1]; rintro e w2 ⟨rfl, e2⟩; obtain rfl := e2.symm)
        | (go_at_call 43; refine (HC.out.1 _ _).mono ?_; rw [h2]; rintro e w2 ⟨rfl, e2⟩; obtain rfl := e2.symm))
      go_ret
      exact ⟨rfl, ((Grw.refl w).alloc _).alloc _⟩
    | eq =>
      have HR3 : Hid (List.compareLex (cmpT d) x x' = R) := by unfold Hid; rw [← HR2.out, h2]; rfl
      clear HR2
      go_enter Yba.func32, Yba.ntmps32
      go_wp2_with (first
        | (go_at_call 42; refine (cmp42 a a' _).mono ?_; rw [h1]; rintro e w2 ⟨rfl, e2⟩; obtain rfl := e2.symm)
        | (go_at_call 43; refine (HC.out.1 _ _).mono ?_; rw [h2]; rintro e w2 ⟨rfl, e2⟩; obtain rfl := e2.symm)
        | (go_at_call 44; refine (HC.out.2.1 _ _).mono ?_; rw [HR3.out]; rintro e w2 ⟨rfl, hg⟩; have HG : Hid (Grw w w2) := (((Grw.refl w).alloc _).alloc _).trans hg; clear hg))
      go_ret
      exact ⟨rfl, HG.out⟩

theorem cmp32 (S : Nat → Prop) {m : Nat} (hm : m ≤ 9223372036854775807) : (d : Nat) → Cmp32 S m d
  | 0 => Cmp32.zero S m
  | d + 1 => Cmp32.succ hm (cmp32 S hm d)
end Go.Proofs.Ybulkbciw
