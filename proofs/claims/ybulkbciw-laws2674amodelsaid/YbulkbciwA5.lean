import Derived.Test.YbulkbciwA4
namespace Go.Proofs.Ybulkbciw
open Go.RowKit Go.Shelf
attribute [local go_sem] Oper.semAt_some
set_option linter.unusedSimpArgs false
set_option linter.unusedVariables false

theorem kp_t {B : Nat} : ∀ {X Y Z : World}, Kp B X Y → Kp B Y Z → Kp B X Z := fun h k => h.trans k
theorem kp_b (B s : Nat) : ∀ (W : World) (l : Nat) (o o' : Obj), s ≤ l → W.heap[l]? = some o → o.isCells = false → o.isWalk = false → Kp B W (W.putObj l o') := by
  intro W l o o' _ hl hc _
  refine ⟨by simp, fun a v _ e => ?_⟩
  exact cell_kept e (grownBy_putObj' W l o') (fun r hr => by cases hr; exact ⟨o, hl, hc⟩)

theorem six (w : World) (o0 o1 o2 o3 o4 o5 : Obj) : ((((((w.alloc o0).alloc o1).alloc o2).alloc o3).alloc o4).alloc o5).heap = w.heap ++ #[o0, o1, o2, o3, o4, o5] := by
  show (((((w.heap.push o0).push o1).push o2).push o3).push o4).push o5 = _
  apply Array.ext'
  simp

theorem bool_lt (W : World) (a : Addr) (u : Value) (h : (W.cell? a).isSome = true) : (W.setCell a u).cell? a = some u := World.cell?_setCell_same' W a u h

set_option maxHeartbeats 2000000 in
set_option maxRecDepth 100000 in
theorem twice26_in (n nn m d : Nat) (hn : 3 ≤ n) (h1 : 1 ≤ nn) (h2 : nn ≤ 8) (hm : m ≤ 1000) (t : T d) (vs is : Value) (S : Nat → Prop) (w : World) (hr : Rep S m d w vs is t) (hv : ∀ v ∈ flat d t, 0 ≤ v ∧ v < 64) :
    CallsIn Fence.wide n Yba.prog 26 #[.agg #[.int .u64 (thr d t : Nat), vs, is], .int .i64 (nn : Int)] w fun e w' => e = .returned (.bool (!decide (flat d t).Nodup)) ∧ Below w.heap.size w w' := by
  have hn1 : 1 ≤ n := by omega
  obtain ⟨p1, n1, c1, p2, n2, c2, rfl, rfl⟩ := Rep.slices d _ _ _ hr
  obtain ⟨nt, hnt⟩ : ∃ k, thr d t = k := ⟨_, rfl⟩
  rw [hnt]
  refine callsIn_of_wp_marks Yba.func26 rfl trivial ?_ rfl
  simp only [Yba.ntmps26, List.size_toArray, List.length_cons, List.length_nil, Nat.reduceAdd, Nat.reduceSub, Array.replicate_succ, Array.replicate_zero, List.push_toArray, List.append_toArray, List.nil_append, List.cons_append]
  gi_wp2
  refine ⟨trivial, ?_⟩
  refine (callsIn_wide.2 (new33 nn h1 h2 _)).mono ?_
  rintro e w' ⟨rfl, e'⟩
  obtain rfl := e'.symm
  gi_wp2
  refine ⟨trivial, ?_⟩
  refine (mem34 _ _ _ _ _ _ _ _ _).mono ?_
  rintro e w'' ⟨rfl, e''⟩
  obtain rfl := e''.symm
  gi_wp2
  simp only [Nat.add_assoc, Nat.reduceAdd]
  obtain ⟨Z, hZ⟩ : ∃ Z, w.heap.size = Z := ⟨_, rfl⟩
  rw [hZ]
  obtain ⟨W6, hW6⟩ : ∃ W, (((((w.alloc (.cells #[.int .u64 (nt : Int), .slice p1 n1 c1, .slice p2 n2 c2] 30)).alloc (.cells #[.bool false] 4)).alloc (.cells #[.int .u64 0] 26)).alloc (.cells #[.slice (some ⟨Z + 2, 0, none⟩) 1 1] 64)).alloc (.cells #[.int .u64 (nt : Int), .slice p1 n1 c1, .slice p2 n2 c2] 30)).alloc (.cells #[.func (.func 35) #[] #[]] 48) = W := ⟨_, rfl⟩
  have hsz : W6.heap.size = Z + 6 := by rw [← hW6, ← hZ]; simp
  have hB0 : Below Z w W6 := by
    rw [← hW6, ← hZ]
    exact ((((((Below.refl _ w).alloc (Nat.le_refl _) _).alloc (by simp) _).alloc (by simp; omega) _).alloc (by simp; omega) _).alloc (by simp; omega) _).alloc (by simp; omega) _
  have hg : ∀ j, W6.heap[Z + j]? = (#[Obj.cells #[.int .u64 (nt : Int), .slice p1 n1 c1, .slice p2 n2 c2] 30, .cells #[.bool false] 4, .cells #[.int .u64 0] 26, .cells #[.slice (some ⟨Z + 2, 0, none⟩) 1 1] 64, .cells #[.int .u64 (nt : Int), .slice p1 n1 c1, .slice p2 n2 c2] 30, .cells #[.func (.func 35) #[] #[]] 48] : Array Obj)[j]? := by
    intro j
    rw [← hW6, six, Array.getElem?_append_right (by omega), hZ, Nat.add_sub_cancel_left]
  have hg1 := hg 1
  have hg2 := hg 2
  have hg3 := hg 3
  have hg4 := hg 4
  have hg5 := hg 5
  clear hg
  simp at hg1 hg2 hg3 hg4 hg5
  rw [hW6]
  clear hW6
  have x1 : W6.cell? ⟨Z + 1, 0, none⟩ = some (.bool false) := by simp [World.cell?, hg1]
  have x1f : W6.frozen? ⟨Z + 1, 0, none⟩ = false := by simp [World.frozen?, hg1]
  have x2 : W6.cell? ⟨Z + 2, 0, none⟩ = some (.int .u64 0) := by simp [World.cell?, hg2]
  have x2f : W6.frozen? ⟨Z + 2, 0, none⟩ = false := by simp [World.frozen?, hg2]
  have x3 : W6.cell? ⟨Z + 3, 0, none⟩ = some (.slice (some ⟨Z + 2, 0, none⟩) 1 1) := by simp [World.cell?, hg3]
  have x5 : W6.cell? ⟨Z + 5, 0, none⟩ = some (.func (.func 35) #[] #[]) := by simp [World.cell?, hg5]
  have y0 : W6.cell? ⟨Z + 4, 0, none⟩ = some (.int .u64 (thr d t : Nat)) := by rw [hnt]; simp [World.cell?, hg4]
  have y1 : W6.cell? ⟨Z + 4, 1, none⟩ = some (.slice p1 n1 c1) := by simp [World.cell?, hg4]
  have y2 : W6.cell? ⟨Z + 4, 2, none⟩ = some (.slice p2 n2 c2) := by simp [World.cell?, hg4]
  clear hg1 hg2 hg3 hg4 hg5
  subst hZ
  have hrep : Rep (fun k => k ≠ w.heap.size + 2) m d W6 (.slice p1 n1 c1) (.slice p2 n2 c2) t := (hr.mono (fun k hk _ => by omega) (Nat.le_refl _)).below hB0
  refine wpIn_rangeFunc_ownF rfl hn1 (gf := 45) (lb := #[.pointer (some ⟨w.heap.size + 5, 0, none⟩), .pointer (some ⟨w.heap.size + 4, 0, none⟩)]) rfl trivial (enters_of Yba.func45 (by kernel_rfl) rfl)
    (members_stops (n - 1) (w.heap.size + 5) (w.heap.size + 4) (w.heap.size + 2) m d t _ _ hm W6 x5 (by omega) y0 y1 y2 hrep hv (by omega)) kp_t (kp_b _ _) (Below.refl _ _) (fun _ => rfl)
    (fun pre W => (pre.Nodup ∧ W.cell? ⟨w.heap.size + 2, 0, none⟩ = some (.int .u64 (word pre : Nat)) ∧ W.frozen? ⟨w.heap.size + 2, 0, none⟩ = false ∧ W.cell? ⟨w.heap.size + 3, 0, none⟩ = some (.slice (some ⟨w.heap.size + 2, 0, none⟩) 1 1) ∧ W.cell? ⟨w.heap.size + 1, 0, none⟩ = some (.bool false) ∧ W.frozen? ⟨w.heap.size + 1, 0, none⟩ = false) ∧ Below w.heap.size w W)
    (fun c pre W => (c = .ret ∧ ¬ pre.Nodup ∧ W.cell? ⟨w.heap.size + 1, 0, none⟩ = some (.bool true)) ∧ Below w.heap.size w W)
    (OwnFrom.and (Own.from (fun s X Y row hs hg hr => ⟨hs.1, cell_kept hs.2.1 hg hr, (frozen_kept hs.2.1 hg hr).trans hs.2.2.1, cell_kept hs.2.2.2.1 hg hr, cell_kept hs.2.2.2.2.1 hg hr, (frozen_kept hs.2.2.2.2.1 hg hr).trans hs.2.2.2.2.2⟩) _) (ownFrom_below (Nat.le_refl _) (by omega)))
    (fun c => OwnFrom.and (Own.from (fun s X Y row hs hg hr => ⟨hs.1, hs.2.1, cell_kept hs.2.2 hg hr⟩) _) (ownFrom_below (Nat.le_refl _) (by omega)))
    ⟨⟨List.nodup_nil, x2, x2f, x3, x1, x1f⟩, hB0⟩
    (fun x => { tmps := #[.agg #[.int .u64 (nt : Int), .slice p1 n1 c1, .slice p2 n2 c2], .int .i64 (nn : Int), .pointer (some ⟨w.heap.size, 0, none⟩), undef, .pointer (some ⟨w.heap.size + 1, 0, none⟩), .pointer (some ⟨w.heap.size + 3, 0, none⟩), .int .i64 ((x : Nat) : Int), .int .i64 (nn : Int), .slice (some ⟨w.heap.size + 2, 0, none⟩) 1 1, .agg #[.int .u64 (nt : Int), .slice p1 n1 c1, .slice p2 n2 c2], .func (.func 45) #[] #[.pointer (some ⟨w.heap.size + 5, 0, none⟩), .pointer (some ⟨w.heap.size + 4, 0, none⟩)], .int .i64 ((x : Nat) : Int), undef, undef, undef, undef, undef, undef, undef, undef], defers := [] }) ?assign ?body ?done ?stop
  case assign =>
    intro l x W K hK
    gi_wp2
    exact hK
  case body =>
    rintro l pre x W ⟨⟨hnd, hw, hwf, hs, hrc, hrf⟩, hB⟩ _
    gi_wp2
    refine ⟨trivial, fun h => (by cases h), ?_⟩
    refine (CallsIn.inRound l (callsIn_wide.2 (has36 _ (word pre) x W hw (word_lt pre)))).mono ?_
    rw [word_bit]
    rintro e w7 ⟨rfl, q, rfl⟩
    have hw7 : (W.drewN q).cell? ⟨w.heap.size + 2, 0, none⟩ = some (.int .u64 (word pre : Nat)) := hw
    have hwf7 : (W.drewN q).frozen? ⟨w.heap.size + 2, 0, none⟩ = false := hwf
    have hs7 : (W.drewN q).cell? ⟨w.heap.size + 3, 0, none⟩ = some (.slice (some ⟨w.heap.size + 2, 0, none⟩) 1 1) := hs
    have hrc7 : (W.drewN q).cell? ⟨w.heap.size + 1, 0, none⟩ = some (.bool false) := hrc
    have hrf7 : (W.drewN q).frozen? ⟨w.heap.size + 1, 0, none⟩ = false := hrf
    have hB7 : Below w.heap.size w (W.drewN q) := ⟨hB.os, hB.tape, hB.output, hB.size, hB.block⟩
    have hK7 : KeepsOthers W (W.drewN q) := ⟨Nat.le_refl _, fun _ _ h _ => h⟩
    have hP7 : Kp (w.heap.size + 2) W (W.drewN q) := ⟨Nat.le_refl _, fun _ _ _ h => h⟩
    generalize W.drewN q = W7 at *
    by_cases hx : x ∈ pre
    · rw [decide_eq_true hx]
      gi_wp2
      refine ⟨hK7.trans (KeepsOthers.setCell _ _ _), ⟨rfl, fun h => ?_, World.cell?_setCell_same' _ _ _ (by rw [hrc7]; rfl)⟩, hB7.setCell (p := ⟨w.heap.size + 1, 0, none⟩) (by simp) _⟩
      have := (List.nodup_append.1 h).2.2 x hx x (by simp)
      exact this rfl
    · rw [decide_eq_false hx]
      have hx0 : (0 : Int) ≤ ((x : Nat) : Int) := by omega
      gi_wp2
      refine ⟨trivial, fun h => (by cases h), ?_⟩
      refine (CallsIn.inRound l (callsIn_wide.2 (add37 _ (word pre) x W7 hw7 hwf7 (word_lt pre)))).mono ?_
      rintro e w8 ⟨rfl, q8, rfl⟩
      gi_wp2
      have hf := (Fr.refl (fun j => j = w.heap.size + 2) (W7.drewN q8)).setCell (p := ⟨w.heap.size + 2, 0, none⟩) rfl (.int .u64 ((word pre ||| 2 ^ (x : Nat) : Nat) : Int))
      have e3 := (hf.cell (p := ⟨w.heap.size + 3, 0, none⟩) (cell_lt hs7) (by simp)).trans hs7
      have e1 := (hf.cell (p := ⟨w.heap.size + 1, 0, none⟩) (cell_lt hrc7) (by simp)).trans hrc7
      have e1f := (hf.frozen (p := ⟨w.heap.size + 1, 0, none⟩) (cell_lt hrc7) (by simp)).trans hrf7
      refine ⟨hK7.trans ((⟨Nat.le_refl _, fun _ _ h _ => h⟩ : KeepsOthers W7 (W7.drewN q8)).trans (KeepsOthers.setCell _ _ _)), hP7.trans ⟨hf.size, fun a v ha e => (hf.cell (cell_lt e) ha).trans e⟩, ⟨?_, ?_, ?_, e3, e1, e1f⟩, (⟨hB7.os, hB7.tape, hB7.output, hB7.size, hB7.block⟩ : Below w.heap.size w (W7.drewN q8)).setCell (p := ⟨w.heap.size + 2, 0, none⟩) (by simp) _⟩
      · rw [List.nodup_append]
        refine ⟨hnd, by simp, fun a ha b hb e => ?_⟩
        simp at hb
        subst hb
        subst e
        exact hx ha
      · rw [word_snoc]
        exact World.cell?_setCell_same' _ _ _ (by rw [show (W7.drewN q8).cell? ⟨w.heap.size + 2, 0, none⟩ = _ from hw7]; rfl)
      · rw [World.frozen?_setCell]
        exact hwf7
  case done =>
    rintro D ys W hD rfl ⟨⟨hnd, hw, hwf, hs, hrc, hrf⟩, hB⟩ hK
    gi_wp2
    have hK' := (KeepsOthers.setCell W ⟨w.heap.size + 1, 0, none⟩ (.bool false)).same D _ hK rfl
    refine ⟨by simp, .inl ⟨_, _, rfl, run_takeDeferred hK', ?_⟩⟩
    have hc5 := cell_kept (World.cell?_setCell_same' W ⟨w.heap.size + 1, 0, none⟩ (.bool false) (by rw [hrc]; rfl)) (grownBy_putObj' _ D (.deferred none)) (fun r e => by cases e; exact ⟨_, hK', rfl⟩)
    refine ⟨.bool false, ?_, by rw [decide_eq_true ((flat_nodup hv).1 hnd)]; rfl, (hB.setCell (p := ⟨w.heap.size + 1, 0, none⟩) (by simp) _).trans (belowK_b (w := w) (Nat.le_refl _) _ D _ _ (by omega) hK' rfl rfl)⟩
    simp [results, Yba.f26, go_sem, hc5]
  case stop =>
    rintro D c pre W hD hpre ⟨⟨rfl, hnd, hrc⟩, hB⟩ hK
    gi_wp2
    refine ⟨by simp, .inl ⟨_, _, rfl, run_takeDeferred hK, ?_⟩⟩
    have hc5 := cell_kept hrc (grownBy_putObj' _ D (.deferred none)) (fun r e => by cases e; exact ⟨_, hK, rfl⟩)
    refine ⟨.bool true, ?_, by rw [decide_eq_false (fun h => hnd (List.Nodup.sublist hpre.sublist ((flat_nodup hv).2 h)))]; rfl, hB.trans (belowK_b (w := w) (Nat.le_refl _) W D _ _ (by omega) hK rfl rfl)⟩
    simp [results, Yba.f26, go_sem, hc5]

theorem twice26 (nn m d : Nat) (h1 : 1 ≤ nn) (h2 : nn ≤ 8) (hm : m ≤ 1000) (t : T d) (vs is : Value) (S : Nat → Prop) (w : World) (hr : Rep S m d w vs is t) (hv : ∀ v ∈ flat d t, 0 ≤ v ∧ v < 64) :
    Calls Yba.prog 26 #[.agg #[.int .u64 (thr d t : Nat), vs, is], .int .i64 (nn : Int)] w fun e w' => e = .returned (.bool (!decide (flat d t).Nodup)) ∧ Below w.heap.size w w' :=
  callsIn_wide.1 (twice26_in 3 nn m d (Nat.le_refl _) h1 h2 hm t vs is S w hr hv)
end Go.Proofs.Ybulkbciw
