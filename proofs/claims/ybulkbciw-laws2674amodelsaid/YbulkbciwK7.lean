import Derived.Test.YbulkbciwK6
import Derived.Deep.RegionHeld3
import Derived.Laws.Rows
namespace Go.Proofs.Ybulkbciw
open Go.RowKit
set_option linter.unusedSimpArgs false
set_option linter.unusedVariables false

/-- a set under construction: its box C, its inner sets' row of the call's own since n -/
def Con (n m d : Nat) (w : World) (C : Nat) (a vs : Value) (px : Option Addr) (k cx : Nat) (L : List (El d)) : Prop :=
  BoxAt w C a vs (.slice px k cx) ∧ Own w n 30 3 px k cx (cellsOf d L) ∧ L.length = k ∧ Elems (SE n px) m d w L ∧ C < n ∧ n ≤ w.heap.size

theorem Con.fr {n m d : Nat} {w w' : World} {C : Nat} {a vs : Value} {px : Option Addr} {k cx : Nat} {L : List (El d)} {S : Nat → Prop} (h : Con n m d w C a vs px k cx L) (f : Fr S w w') (hS : ∀ j, j < w.heap.size → (j = C ∨ n ≤ j) → ¬ S j) : Con n m d w' C a vs px k cx L := by
  obtain ⟨h1, h2, h3, h4, h5, h6⟩ := h
  refine ⟨h1.fr f (hS C h1.lt (.inl rfl)), h2.fr f ?_, h3, fun e he => ?_, h5, Nat.le_trans h6 f.size⟩
  · intro j o s e
    rcases h2.at with ⟨e2, _⟩ | ⟨g, e2, hb, hlt, _⟩
    · rw [e2] at e; cases e
    · rw [e2] at e; cases e; exact hS _ hlt (.inr hb)
  · exact Rep.keep (fun a v hs e => by rw [f.cell (cell_lt e) (hS _ (cell_lt e) (.inr hs.1))]; exact e) (fun _ _ e => e) (Nat.le_refl _) d _ _ _ (h4 e he)

theorem Con.app {n m d : Nat} {w : World} {C : Nat} {a vs : Value} {px : Option Addr} {k cx : Nat} {L : List (El d)} (h : Con n m d w C a vs px k cx L) (hk : k ≤ 1000) (e : El d) (hr : Rep (SE n px) m d w e.1 e.2.1 e.2.2) :
    ∃ g' c' w2, (Builtin.append_ #[28, 28] 28 #[.slice px k cx, .slice (some ⟨w.heap.size, 0, none⟩) 1 1]).run Yba.prog (w.alloc (.cells #[.int .u64 (thr d e.2.2 : Nat), e.1, e.2.1] 30)) = .ok (.slice (some ⟨g', 0, none⟩) (k + 1) c') w2 ∧
      BoxAt w2 C a vs (.slice px k cx) ∧ Con n m d (w2.setCell ⟨C, 2, none⟩ (.slice (some ⟨g', 0, none⟩) (k + 1) c')) C a vs (some ⟨g', 0, none⟩) (k + 1) c' (L ++ [e]) ∧
      Fr (fun j => j = C ∨ n ≤ j) w (w2.setCell ⟨C, 2, none⟩ (.slice (some ⟨g', 0, none⟩) (k + 1) c')) := by
  obtain ⟨h1, h2, h3, h4, h5, h6⟩ := h
  obtain ⟨pu, nu, cu, px', nx, cx', e1, e2⟩ := Rep.slices d _ _ _ hr
  obtain ⟨g', c', w2, r, o2, f2, hg, hlt⟩ := app_own w 28 30 3 56 _ Yba.underlying28 info30 rfl (by decide) (by decide) n px k cx (cellsOf d L) [.int .u64 (thr d e.2.2 : Nat), e.1, e.2.1] h2 h6 (by omega) rfl (by
    intro u hu; rw [e1, e2] at hu; simp at hu; rcases hu with rfl | rfl | rfl <;> rfl)
  have hpx : ∀ j, px = some ⟨j, 0, none⟩ → n ≤ j := by
    intro j e
    rcases h2.at with ⟨e2, _⟩ | ⟨g, e2, hb, _⟩
    · rw [e2] at e; cases e
    · rw [e2] at e; cases e; exact hb
  have hC : ¬ (px = some ⟨C, 0, none⟩) := fun e => by have := hpx C e; omega
  have b2 := h1.fr f2 hC
  have hg'n : n ≤ g' := by rcases hg with hg | hg; · exact hpx _ hg
                           · omega
  have fs : Fr (fun j => j = C) w2 (w2.setCell ⟨C, 2, none⟩ (.slice (some ⟨g', 0, none⟩) (k + 1) c')) := (Fr.refl (fun j => j = C) w2).setCell rfl _
  refine ⟨g', c', w2, r, b2, ⟨b2.set2 _, ?_, by simp [h3], ?_, h5, Nat.le_trans h6 (Nat.le_trans f2.size fs.size)⟩, (f2.mono (T := fun j => j = C ∨ n ≤ j) (fun j _ e => .inr (hpx j e))).trans fs (fun j _ e => .inl e)⟩
  · rw [cellsOf_append]
    exact o2.fr fs (fun j o s e => by cases e; omega)
  · refine (h4.app hr f2 hg).fr fs ?_
    rintro j ⟨hj, _⟩ rfl
    omega

theorem Fr.below {B : Nat} {S : Nat → Prop} {w0 w w' : World} (h : Fr S w w') (hb : Below B w0 w) (hB : w0.heap.size ≤ w.heap.size) (hS : ∀ k, k < B → ¬ S k) (hBB : B ≤ w0.heap.size := by exact Nat.le_refl _) : Below B w0 w' := hb.trans (h.toBelow (Nat.le_trans hBB hB) hS)

theorem BoxAt.set0 {w : World} {C : Nat} {a vs is : Value} (h : BoxAt w C a vs is) (v : Value) : BoxAt (w.setCell ⟨C, 0, none⟩ v) C v vs is := by
  unfold BoxAt at h ⊢
  rw [setCell_eq_setRow w C 0 _ 30 (0, 0) _ h, setRow_heap w C _ _ 30 _ h]
  rfl

/-- behind 'q := QuorumSet{Threshold: .., Validators: ints(..)}' -/
def Aft (W4 W6 : World) (C : Nat) (a vs : Value) (pm : Option Addr) (um : List Int) : Prop := BoxAt W6 C a vs (.slice none 0 0) ∧ IntRow (fun k => W4.heap.size ≤ k ∧ k ≠ C) W6 pm um ∧ Below W4.heap.size W4 W6 ∧ W4.heap.size ≤ C

theorem aftA {W4 w5 : World} {a vs : Value} {pm : Option Addr} {um : List Int} (hb : Below ((W4.alloc (.cells #[.int .u64 0, .slice none 0 0, .slice none 0 0] 30)).drew).heap.size ((W4.alloc (.cells #[.int .u64 0, .slice none 0 0, .slice none 0 0] 30)).drew) w5) (hr : IntRow (fun k => ((W4.alloc (.cells #[.int .u64 0, .slice none 0 0, .slice none 0 0] 30)).drew).heap.size ≤ k) w5 pm um) :
    Aft W4 (((w5.setCell ⟨W4.heap.size, 0, none⟩ a).setCell ⟨W4.heap.size, 1, none⟩ vs).setCell ⟨W4.heap.size, 2, none⟩ (.slice none 0 0)) W4.heap.size a vs pm um := by
  have hbx : BoxAt w5 W4.heap.size (.int .u64 0) (.slice none 0 0) (.slice none 0 0) := BoxAt.fr (w := (W4.alloc (.cells #[.int .u64 0, .slice none 0 0, .slice none 0 0] 30)).drew) (BoxAt.new W4 _ _ _) (Below.toFr hb) (fun e => e)
  have hf : Fr (fun j => j = W4.heap.size) w5 (((w5.setCell ⟨W4.heap.size, 0, none⟩ a).setCell ⟨W4.heap.size, 1, none⟩ vs).setCell ⟨W4.heap.size, 2, none⟩ (.slice none 0 0)) := ((((Fr.refl (fun j => j = W4.heap.size) w5).setCell (p := ⟨W4.heap.size, 0, none⟩) rfl _).setCell (p := ⟨W4.heap.size, 1, none⟩) rfl _).setCell (p := ⟨W4.heap.size, 2, none⟩) rfl _)
  have h45 : Below W4.heap.size W4 w5 := ((Below.refl _ W4).alloc (Nat.le_refl _) _).drew.trans (hb.mono (by simp))
  refine ⟨((hbx.set0 _).set1 _).set2 _, hr.keep (fun p v hs e => ?_) (fun k _ hk => ?_), h45.trans (hf.toBelow h45.size (fun k hk e => by omega)), Nat.le_refl _⟩
  · rw [hf.cell (cell_lt e) (fun e2 => by simp at hs; omega)]; exact e
  · simp at hk; omega
theorem aftB {W4 w5 : World} {a vs : Value} {pm : Option Addr} {um : List Int} (hb : Below W4.drew.heap.size W4.drew w5) (hr : IntRow (fun k => W4.drew.heap.size ≤ k) w5 pm um) :
    Aft W4 (w5.alloc (.cells #[a, vs, .slice none 0 0] 30)) w5.heap.size a vs pm um := by
  have h45 : Below W4.heap.size W4 w5 := (Below.refl _ W4).drew.trans hb
  refine ⟨BoxAt.new _ _ _ _, hr.keep (fun p v hs e => cell_al e _) (fun k hk hs => ⟨hs, by omega⟩), h45.alloc h45.size _, h45.size⟩

/-- what build leaves: SOME tree -/
def BD (w : World) (e : Ending) (w' : World) : Prop := ∃ vs is, ∃ t : T 3, e = .returned (.agg #[.int .u64 (thr 3 t : Nat), vs, is]) ∧ Rep (fun _ => True) 256 3 w' vs is t ∧ Below w.heap.size w w'

set_option maxHeartbeats 1000000 in
set_option maxRecDepth 10000 in
theorem build20 (x0 : Int) (p1 p2 : Option Addr) (n1 c1 n2 c2 : Nat) (w : World) (h1 : n1 ≤ 256) (h2 : n2 ≤ 256) (h : I8 w p1 n1) (hm : Mids 256 w p2 n2) (hx0 : 0 ≤ x0) :
    Calls Yba.prog 20 #[.int .u8 x0, .slice p1 n1 c1, .slice p2 n2 c2] w fun e w' => BD w e w' := by
  have HM : Hid (I8 w p1 n1 ∧ Mids 256 w p2 n2) := ⟨h, hm⟩
  clear h hm
  obtain ⟨a0, ha0⟩ : ∃ a0 : Nat, x0 % 6 = a0 := ⟨(x0 % 6).toNat, by omega⟩
  have HB0 : ∀ o, Hid (Below w.heap.size w (w.alloc o)) := fun o => (Below.refl _ w).alloc (Nat.le_refl _) o
  go_enter Yba.func20, Yba.ntmps20
  go_wp2_with (go_at_call 28; fail)
  refine (ints28 p1 n1 c1 _ (HM.out.1.below (HB0 _).out) h1).mono ?_
  rintro e w1 ⟨pv, cv, uv, rfl, luv, hrv, hb1⟩
  have HV : Hid ((uv.length = n1 ∧ BoxAt w1 w.heap.size (.int .u64 0) (.slice none 0 0) (.slice none 0 0)) ∧ IntRow (fun k => w.heap.size < k) w1 pv uv ∧ Below w.heap.size w w1) := ⟨⟨luv, BoxAt.fr (BoxAt.new w _ _ _) (Below.toFr hb1) (fun e => e)⟩, hrv.keep (fun _ _ _ e => e) (fun k _ e => by simp at e; omega), (HB0 _).out.trans (hb1.mono (by simp))⟩
  clear luv hrv hb1
  go_wp2
  obtain ⟨C1, hC1⟩ : ∃ C, w1.heap.size = C := ⟨_, rfl⟩
  obtain ⟨W0, hW0⟩ : ∃ W, w1.alloc (.cells #[.int .u64 (a0 : Nat), .slice pv n1 cv, .slice none 0 0] 30) = W := ⟨_, rfl⟩
  have HW : Hid (Con (C1 + 1) 256 2 W0 C1 (.int .u64 (a0 : Nat)) (.slice pv n1 cv) none 0 0 [] ∧ Below w.heap.size w W0 ∧ IntRow (fun k => w.heap.size < k ∧ k < C1) W0 pv uv ∧ uv.length = n1 ∧ W0.heap.size = C1 + 1 ∧ w.heap.size < C1 ∧ BoxAt W0 w.heap.size (.int .u64 0) (.slice none 0 0) (.slice none 0 0)) := by
    subst hW0
    subst hC1
    refine ⟨⟨BoxAt.new _ _ _ _, Own.nil _ _ _ _, rfl, Elems.nil _ _ _ _, by omega, by simp⟩, HV.out.2.2.alloc HV.out.2.2.size _, ?_, HV.out.1.1, by simp, lt_of_block HV.out.1.2, BoxAt.fr (w := w1) HV.out.1.2 ((Fr.refl (fun _ => False) w1).alloc _) (fun e => e)⟩
    refine HV.out.2.1.keep (fun a v _ e => ?_) (fun k hk h => ⟨h, hk⟩)
    exact cell_al e _
  rw [hC1, hW0]
  clear HV HB0 hC1 hW0
  go_loopw [22] (fun i wr => ∃ (k : Nat) (px : Option Addr) (cx : Nat) (L : List (El 2)), i = .int .i64 k ∧ k ≤ n2 ∧ Con (C1 + 1) 256 2 wr C1 (.int .u64 (a0 : Nat)) (.slice pv n1 cv) px k cx L ∧ Fr (fun j => j = C1 ∨ C1 + 1 ≤ j) W0 wr) (fun i _ => n2 - (intOf i).toNat)
  case atStart => exact ⟨0, none, 0, [], rfl, Nat.zero_le _, HW.out.1, Fr.refl _ _⟩
  case round =>
    obtain ⟨k, px, cx, L, rfl, hk, hcon, hfr⟩ := hrel
    have hbel : Below w.heap.size w wr := hfr.below HW.out.2.1 HW.out.2.1.size (fun j hj e => by have := HW.out.2.2.2.2.2; omega)
    have HC : Hid (Con (C1 + 1) 256 2 wr C1 (.int .u64 (a0 : Nat)) (.slice pv n1 cv) px k cx L ∧ Fr (fun j => j = C1 ∨ C1 + 1 ≤ j) W0 wr ∧ Below w.heap.size w wr) := ⟨hcon, hfr, hbel⟩
    by_cases hlt : k < n2
    · obtain ⟨b, off, x, q, l, c, q2, l2, c2', e, d1, d3, d4, hl, hl2, h8, hf, hx⟩ := (HM.out.2.below hbel) k hlt
      subst e
      have HD : Hid (I8 wr q l ∧ Leafs 256 wr q2 l2) := ⟨h8, hf⟩
      clear h8 hf hcon hfr hbel
      obtain ⟨a2, ha2⟩ : ∃ a2 : Nat, x % 6 = a2 := ⟨(x % 6).toNat, by omega⟩
      go_wp2
      obtain ⟨M, hM⟩ : ∃ M, wr.heap.size = M := ⟨_, rfl⟩
      obtain ⟨W4, hW4⟩ : ∃ W, wr.alloc (.cells #[.int .u8 x, .slice q l c, .slice q2 l2 c2'] 55) = W := ⟨_, rfl⟩
      have m0 : W4.cell? ⟨M, 0, none⟩ = some (.int .u8 x) := by rw [← hW4, ← hM]; simp
      have m1 : W4.cell? ⟨M, 1, none⟩ = some (.slice q l c) := by rw [← hW4, ← hM]; simp
      have m2 : W4.cell? ⟨M, 2, none⟩ = some (.slice q2 l2 c2') := by rw [← hW4, ← hM]; simp
      have H4 : Hid (Below wr.heap.size wr W4 ∧ W4.heap.size = M + 1 ∧ wr.heap.size = M) := ⟨hW4 ▸ (Below.refl _ wr).alloc (Nat.le_refl _) _, by rw [← hW4, ← hM]; simp, hM⟩
      rw [hM, hW4]
      clear hM hW4
      have hx6 : x.tmod 6 = (a2 : Int) := by rw [Int.tmod_eq_emod_of_nonneg hx]; exact ha2
      have hx7 : IntKind.u64.wrap (a2 : Int) = (a2 : Int) := by rw [IntKind.wrap_u64]; omega
      obtain ⟨C2, hC2⟩ : ∃ C, W4.heap.size = C := ⟨_, rfl⟩
      obtain ⟨W5, hW5⟩ : ∃ W, (W4.alloc (.cells #[.int .u64 0, .slice none 0 0, .slice none 0 0] 30)).drew = W := ⟨_, rfl⟩
      have H5 : Hid (Below wr.heap.size wr W5 ∧ BoxAt W5 C2 (.int .u64 0) (.slice none 0 0) (.slice none 0 0) ∧ W5.heap.size = C2 + 1 ∧ C2 = M + 1 ∧ W5.cell? ⟨M, 0, none⟩ = some (.int .u8 x) ∧ W5.cell? ⟨M, 1, none⟩ = some (.slice q l c) ∧ W5.cell? ⟨M, 2, none⟩ = some (.slice q2 l2 c2')) := by
        subst hW5
        subst hC2
        exact ⟨(H4.out.1.alloc H4.out.1.size _).drew, BoxAt.new W4 _ _ _, by simp, H4.out.2.1, cell_al m0 _, cell_al m1 _, cell_al m2 _⟩
      have hMC : M ≠ C2 := by have := H5.out.2.2.2.1; omega
      have hMC2 : C2 ≠ M := fun e => hMC e.symm
      have m0' := H5.out.2.2.2.2.1
      have m1' := H5.out.2.2.2.2.2.1
      have HQ : Hid (Calls Yba.prog 28 #[.slice q l c] W5 fun e w' => ∃ pm cm um, e = .returned (.slice pm l cm) ∧ um.length = l ∧ IntRow (fun k => W5.heap.size ≤ k) w' pm um ∧ Below W5.heap.size W5 w') := ints28 q l c W5 (HD.out.1.below H5.out.1) hl
      have HQ2 : Hid (Calls Yba.prog 28 #[.slice q l c] W4.drew fun e w' => ∃ pm cm um, e = .returned (.slice pm l cm) ∧ um.length = l ∧ IntRow (fun k => W4.drew.heap.size ≤ k) w' pm um ∧ Below W4.drew.heap.size W4.drew w') := ints28 q l c W4.drew (HD.out.1.below H4.out.1.drew) hl
      go_region_held3 (fun w' => w'.cell? ⟨M, 0, none⟩ = some (.int .u8 x) ∧ w'.cell? ⟨M, 1, none⟩ = some (.slice q l c)) (first | go_keep | (exact ⟨hk0, hk1⟩))
        ((first
          | (go_at_call 28; refine HQ.out.mono ?_; rintro e w5 ⟨pm, cm, um, rfl, lum, hrm, hb5⟩; have hbx := BoxAt.fr H5.out.2.1 (Below.toFr hb5) (fun e => e); have b0 := hbx.c0; have b1 := hbx.c1; have b2 := hbx.c2; have b3 := hbx.f 0; have b4 := hbx.f 1; have b5 := hbx.f 2; have hk0 := cell_bl hb5 H5.out.2.2.2.2.1; have hk1 := cell_bl hb5 H5.out.2.2.2.2.2.1)
          | (go_at_call 28; refine HQ2.out.mono ?_; rintro e w5 ⟨pm, cm, um, rfl, lum, hrm, hb5⟩; have hk0 := cell_bl hb5 (show W4.drew.cell? ⟨M, 0, none⟩ = some (.int .u8 x) from m0); have hk1 := cell_bl hb5 (show W4.drew.cell? ⟨M, 1, none⟩ = some (.slice q l c) from m1))))
      all_goals first
        | (subst hW5
           subst hC2
           obtain ⟨C, W6, hC, hW6, HX⟩ : ∃ C W6, W4.heap.size = C ∧ ((w5.setCell ⟨W4.heap.size, 0, none⟩ (.int .u64 (a2 : Nat))).setCell ⟨W4.heap.size, 1, none⟩ (.slice pm l cm)).setCell ⟨W4.heap.size, 2, none⟩ (.slice none 0 0) = W6 ∧ Hid (Aft W4 W6 C (.int .u64 (a2 : Nat)) (.slice pm l cm) pm um ∧ um.length = l) := ⟨_, _, rfl, rfl, aftA hb5 hrm, lum⟩
           rw [hW6, hC]
           clear hW6 hC hbx b0 b1 b2 b3 b4 b5)
        | (obtain ⟨C, W6, hC, hW6, HX⟩ : ∃ C W6, w5.heap.size = C ∧ w5.alloc (.cells #[.int .u64 (a2 : Nat), .slice pm l cm, .slice none 0 0] 30) = W6 ∧ Hid (Aft W4 W6 C (.int .u64 (a2 : Nat)) (.slice pm l cm) pm um ∧ um.length = l) := ⟨_, _, rfl, rfl, aftB hb5 hrm, lum⟩
           rw [hW6, hC]
           clear hW6 hC)
      all_goals
        rename_i hheld
        clear hheld hk0 hk1 hb5 hrm lum hMC hMC2 m0' m1' H5 HQ HQ2 d1 d3 d4 m0 m1
        replace m2 := cell_bl HX.out.1.2.2.1 m2
        obtain ⟨n6, hn6⟩ : ∃ n, W6.heap.size = n := ⟨_, rfl⟩
        have H6 : Hid (Con n6 256 1 W6 C (.int .u64 (a2 : Nat)) (.slice pm l cm) none 0 0 [] ∧ Below wr.heap.size wr W6 ∧ wr.heap.size < C ∧ C < n6 ∧ W6.heap.size = n6) := by
          obtain ⟨x1, x2, x3, x4⟩ := HX.out.1
          have hCl := x1.lt
          have := H4.out.2
          refine ⟨⟨x1, Own.nil _ _ _ _, rfl, Elems.nil _ _ _ _, by omega, by omega⟩, H4.out.1.trans (x3.mono (by omega)), by omega, by omega, hn6⟩
        clear hn6
        obtain ⟨wo, hwo⟩ : ∃ wo : World, wo = wr := ⟨_, rfl⟩
        rw [← hwo] at HC HD H4 H6
        clear hwo
        go_wp2
        go_loopw [37] (fun i wr => ∃ (k3 : Nat) (px3 : Option Addr) (cx3 : Nat) (L3 : List (El 1)), i = .int .i64 k3 ∧ k3 ≤ l2 ∧ Con n6 256 1 wr C (.int .u64 (a2 : Nat)) (.slice pm l cm) px3 k3 cx3 L3 ∧ Fr (fun j => j = C ∨ n6 ≤ j) W6 wr) (fun i _ => l2 - (intOf i).toNat)
        case atStart => exact ⟨0, none, 0, [], rfl, Nat.zero_le _, H6.out.1, Fr.refl _ _⟩
        case round =>
          obtain ⟨k3, px3, cx3, L3, rfl, hk3, hcon, hfr⟩ := hrel
          have hbel : Below wo.heap.size wo wr := Fr.below hfr H6.out.2.1 H6.out.2.1.size (fun j hj e => by have := H6.out.2.2; omega)
          have HC3 : Hid (Con n6 256 1 wr C (.int .u64 (a2 : Nat)) (.slice pm l cm) px3 k3 cx3 L3 ∧ Fr (fun j => j = C ∨ n6 ≤ j) W6 wr ∧ Below wo.heap.size wo wr) := ⟨hcon, hfr, hbel⟩
          by_cases hlt3 : k3 < l2
          · obtain ⟨b5, off5, x5, q5, l5, c5, e5, f1, f2, hl5, h85, hx5⟩ := (HD.out.2.below hbel) k3 hlt3
            subst e5
            have HD5 : Hid (I8 wr q5 l5) := h85
            clear h85 hcon hfr hbel
            obtain ⟨a3, ha3⟩ : ∃ a3 : Nat, x5 % 6 = a3 := ⟨(x5 % 6).toNat, by omega⟩
            go_wp2
            obtain ⟨M5, hM5⟩ : ∃ M, wr.heap.size = M := ⟨_, rfl⟩
            obtain ⟨W8, hW8⟩ : ∃ W, wr.alloc (.cells #[.int .u8 x5, .slice q5 l5 c5] 57) = W := ⟨_, rfl⟩
            have m50 : W8.cell? ⟨M5, 0, none⟩ = some (.int .u8 x5) := by rw [← hW8, ← hM5]; simp
            have m51 : W8.cell? ⟨M5, 1, none⟩ = some (.slice q5 l5 c5) := by rw [← hW8, ← hM5]; simp
            have H8 : Hid (Below wr.heap.size wr W8 ∧ W8.heap.size = M5 + 1 ∧ wr.heap.size = M5) := ⟨hW8 ▸ (Below.refl _ wr).alloc (Nat.le_refl _) _, by rw [← hW8, ← hM5]; simp, hM5⟩
            rw [hM5, hW8]
            clear hM5 hW8
            have hx56 : x5.tmod 6 = (a3 : Int) := by rw [Int.tmod_eq_emod_of_nonneg hx5]; exact ha3
            have hx57 : IntKind.u64.wrap (a3 : Int) = (a3 : Int) := by rw [IntKind.wrap_u64]; omega
            obtain ⟨C5, hC5⟩ : ∃ C, W8.heap.size = C := ⟨_, rfl⟩
            obtain ⟨W9, hW9⟩ : ∃ W, (W8.alloc (.cells #[.int .u64 0, .slice none 0 0, .slice none 0 0] 30)).drew = W := ⟨_, rfl⟩
            have H9 : Hid (Below wr.heap.size wr W9 ∧ BoxAt W9 C5 (.int .u64 0) (.slice none 0 0) (.slice none 0 0) ∧ C5 = M5 + 1 ∧ W9.cell? ⟨M5, 0, none⟩ = some (.int .u8 x5) ∧ W9.cell? ⟨M5, 1, none⟩ = some (.slice q5 l5 c5)) := by
              subst hW9
              subst hC5
              exact ⟨(H8.out.1.alloc H8.out.1.size _).drew, BoxAt.new W8 _ _ _, H8.out.2.1, cell_al m50 _, cell_al m51 _⟩
            have hMC5 : M5 ≠ C5 := by have := H9.out.2.2.1; omega
            have hMC52 : C5 ≠ M5 := fun e => hMC5 e.symm
            have m50' := H9.out.2.2.2.1
            have m51' := H9.out.2.2.2.2
            have HQ5 : Hid (Calls Yba.prog 28 #[.slice q5 l5 c5] W9 fun e w' => ∃ pm cm um, e = .returned (.slice pm l5 cm) ∧ um.length = l5 ∧ IntRow (fun k => W9.heap.size ≤ k) w' pm um ∧ Below W9.heap.size W9 w') := ints28 q5 l5 c5 W9 (HD5.out.below H9.out.1) hl5
            have HQ6 : Hid (Calls Yba.prog 28 #[.slice q5 l5 c5] W8.drew fun e w' => ∃ pm cm um, e = .returned (.slice pm l5 cm) ∧ um.length = l5 ∧ IntRow (fun k => W8.drew.heap.size ≤ k) w' pm um ∧ Below W8.drew.heap.size W8.drew w') := ints28 q5 l5 c5 W8.drew (HD5.out.below H8.out.1.drew) hl5
            go_region_held3 (fun w' => w'.cell? ⟨M5, 0, none⟩ = some (.int .u8 x5) ∧ w'.cell? ⟨M5, 1, none⟩ = some (.slice q5 l5 c5)) (first | go_keep | (exact ⟨hk50, hk51⟩))
              ((first
                | (go_at_call 28; refine HQ5.out.mono ?_; rintro e w9 ⟨p9, c9, u9', rfl, lu9, hr9, hb9⟩; have hbx := BoxAt.fr H9.out.2.1 (Below.toFr hb9) (fun e => e); have b0 := hbx.c0; have b1 := hbx.c1; have b2 := hbx.c2; have b3 := hbx.f 0; have b4 := hbx.f 1; have b5 := hbx.f 2; have hk50 := cell_bl hb9 H9.out.2.2.2.1; have hk51 := cell_bl hb9 H9.out.2.2.2.2)
                | (go_at_call 28; refine HQ6.out.mono ?_; rintro e w9 ⟨p9, c9, u9', rfl, lu9, hr9, hb9⟩; have hk50 := cell_bl hb9 (show W8.drew.cell? ⟨M5, 0, none⟩ = some (.int .u8 x5) from m50); have hk51 := cell_bl hb9 (show W8.drew.cell? ⟨M5, 1, none⟩ = some (.slice q5 l5 c5) from m51))))
            all_goals first
              | (subst hW9
                 subst hC5
                 obtain ⟨D, W10, hD, hW10, HX5⟩ : ∃ D W10, W8.heap.size = D ∧ ((w9.setCell ⟨W8.heap.size, 0, none⟩ (.int .u64 (a3 : Nat))).setCell ⟨W8.heap.size, 1, none⟩ (.slice p9 l5 c9)).setCell ⟨W8.heap.size, 2, none⟩ (.slice none 0 0) = W10 ∧ Hid (Aft W8 W10 D (.int .u64 (a3 : Nat)) (.slice p9 l5 c9) p9 u9' ∧ u9'.length = l5) := ⟨_, _, rfl, rfl, aftA hb9 hr9, lu9⟩
                 rw [hW10, hD]
                 clear hW10 hD hbx b0 b1 b2 b3 b4 b5)
              | (obtain ⟨D, W10, hD, hW10, HX5⟩ : ∃ D W10, w9.heap.size = D ∧ w9.alloc (.cells #[.int .u64 (a3 : Nat), .slice p9 l5 c9, .slice none 0 0] 30) = W10 ∧ Hid (Aft W8 W10 D (.int .u64 (a3 : Nat)) (.slice p9 l5 c9) p9 u9' ∧ u9'.length = l5) := ⟨_, _, rfl, rfl, aftB hb9 hr9, lu9⟩
                 rw [hW10, hD]
                 clear hW10 hD)
            all_goals
              rename_i hheld
              clear hheld hk50 hk51 hb9 hr9 lu9 hMC5 hMC52 m50' m51' H9 HQ5 HQ6 f1 f2 m50 m51
              have HA : Hid (Con n6 256 1 W10 C (.int .u64 (a2 : Nat)) (.slice pm l cm) px3 k3 cx3 L3 ∧ Rep (SE n6 px3) 256 1 W10 (.slice p9 l5 c9) (.slice none 0 0) (a3, u9', []) ∧ Fr (fun j => j = C ∨ n6 ≤ j) W6 W10 ∧ BoxAt W10 D (.int .u64 (a3 : Nat)) (.slice p9 l5 c9) (.slice none 0 0) ∧ C ≠ D) := by
                obtain ⟨x1, x2, x3, x4⟩ := HX5.out.1
                have hwr : Below wr.heap.size wr W10 := H8.out.1.trans (x3.mono (by have := H8.out.2; omega))
                have hsz := HC3.out.1.2.2.2.2.2
                have hCn := HC3.out.1.2.2.2.2.1
                have h8s := H8.out.2
                refine ⟨HC3.out.1.fr (Below.toFr hwr) (fun _ _ _ e => e), ?_, HC3.out.2.1.trans (Below.toFr hwr) (fun _ _ e => e.elim), x1, by omega⟩
                refine ⟨p9, c9, none, 0, by rw [HX5.out.2], rfl, by rw [HX5.out.2]; exact hl5, Nat.zero_le _, x2.keep (fun _ _ _ e => e) (fun j _ hj => ⟨by omega, fun e => ?_⟩), .inl rfl⟩
                rcases HC3.out.1.2.1.at with ⟨e2, _⟩ | ⟨g, e2, _, hlt, _⟩
                · rw [e2] at e; cases e
                · rw [e2] at e; cases e; omega
              obtain ⟨g', cg, w2, r, bx2, con2, fr2⟩ := HA.out.1.app (by omega) ((.slice p9 l5 c9), (.slice none 0 0), ((a3, u9', []) : T 1)) HA.out.2.1
              have HR : Hid _ := r
              have z1 := HA.out.1.1.c2
              have z2 := HA.out.2.2.2.1.c0
              have z3 := HA.out.2.2.2.1.c1
              have z4 := HA.out.2.2.2.1.c2
              have z5 := bx2.c2
              have z6 := bx2.f 2
              have HN : Hid (Con n6 256 1 (w2.setCell ⟨C, 2, none⟩ (.slice (some ⟨g', 0, none⟩) (k3 + 1) cg)) C (.int .u64 (a2 : Nat)) (.slice pm l cm) (some ⟨g', 0, none⟩) (k3 + 1) cg (L3 ++ [((.slice p9 l5 c9), (.slice none 0 0), ((a3, u9', []) : T 1))]) ∧ Fr (fun j => j = C ∨ n6 ≤ j) W6 (w2.setCell ⟨C, 2, none⟩ (.slice (some ⟨g', 0, none⟩) (k3 + 1) cg))) := ⟨con2, HA.out.2.2.1.trans fr2 (fun _ _ e => e)⟩
              clear r bx2 con2 fr2
              go_wp2_with (at_builtin; refine Lib.wpList_append_run _ rfl _ _ 28 28 rfl _ _ rfl rfl _ _ HR.out ?_)
              go_roundw
              case rel => exact ⟨k3 + 1, _, _, _, by go_num, by omega, HN.out.1, HN.out.2⟩
              case measure => simp [intOf]; omega
          · obtain rfl : k3 = l2 := by omega
            clear hcon hfr hbel
            have HA : Hid (Con (C1 + 1) 256 2 wr C1 (.int .u64 (a0 : Nat)) (.slice pv n1 cv) px k cx L ∧ Rep (SE (C1 + 1) px) 256 2 wr (.slice pm l cm) (.slice px3 k3 cx3) (a2, um, L3.map (·.2.2)) ∧ Fr (fun j => j = C1 ∨ C1 + 1 ≤ j) W0 wr ∧ BoxAt wr C (.int .u64 (a2 : Nat)) (.slice pm l cm) (.slice px3 k3 cx3)) := by
              obtain ⟨o1, o2, o3⟩ := HC.out
              obtain ⟨i1, i2, i3⟩ := HC3.out
              obtain ⟨y1, y2, y3, y4, y5⟩ := H6.out
              have hsz := o1.2.2.2.2.2
              have hpx : ∀ j, px = some ⟨j, 0, none⟩ → j < wo.heap.size := by
                intro j e
                rcases o1.2.1.at with ⟨e2, _⟩ | ⟨g, e2, _, hlt, _⟩
                · rw [e2] at e; cases e
                · rw [e2] at e; cases e; exact hlt
              refine ⟨o1.fr (Below.toFr i3) (fun _ _ _ e => e), ?_, o2.trans (Below.toFr i3) (fun _ _ e => e.elim), i1.1⟩
              have hum := HX.out.2
              subst hum
              refine mkRep (base := n6) ?_ i1.2.1 i1.2.2.1 (i1.2.2.2.1.mono (fun j _ hj => ⟨by have := hj.1; omega, fun e => by have := hpx j e; have := hj.1; omega⟩) (Nat.le_refl _)) (fun j hj => ⟨by omega, fun e => by have := hpx j e; omega⟩) hl hl2
              refine HX.out.1.2.1.keep (w' := wr) (fun ad v hs e => ?_) (fun j _ hj => ⟨?_, fun e => ?_⟩)
              · rw [i2.cell (cell_lt e) (fun e2 => by rcases e2 with e2 | e2; · exact hs.2 e2
                                                      · have := cell_lt e; omega)]
                exact e
              · have := hj.1; have := H4.out.2; omega
              · have := hpx j e; have := hj.1; have := H4.out.2; omega
            obtain ⟨g', cg, w2, r, bx2, con2, fr2⟩ := HA.out.1.app (by omega) ((.slice pm l cm), (.slice px3 k3 cx3), ((a2, um, L3.map (·.2.2)) : T 2)) HA.out.2.1
            have HR : Hid _ := r
            have z1 := HA.out.1.1.c2
            have z2 := HA.out.2.2.2.c0
            have z3 := HA.out.2.2.2.c1
            have z4 := HA.out.2.2.2.c2
            have z5 := bx2.c2
            have z6 := bx2.f 2
            have HN : Hid (Con (C1 + 1) 256 2 (w2.setCell ⟨C1, 2, none⟩ (.slice (some ⟨g', 0, none⟩) (k + 1) cg)) C1 (.int .u64 (a0 : Nat)) (.slice pv n1 cv) (some ⟨g', 0, none⟩) (k + 1) cg (L ++ [((.slice pm l cm), (.slice px3 k3 cx3), ((a2, um, L3.map (·.2.2)) : T 2))]) ∧ Fr (fun j => j = C1 ∨ C1 + 1 ≤ j) W0 (w2.setCell ⟨C1, 2, none⟩ (.slice (some ⟨g', 0, none⟩) (k + 1) cg))) := ⟨con2, HA.out.2.2.1.trans fr2 (fun _ _ e => e)⟩
            clear r bx2 con2 fr2
            go_wp2_with (at_builtin; refine Lib.wpList_append_run _ rfl _ _ 28 28 rfl _ _ rfl rfl _ _ HR.out ?_)
            go_roundw
            case rel => exact ⟨k + 1, _, _, _, by go_num, by omega, HN.out.1, HN.out.2⟩
            case measure => simp [intOf]; omega
    · obtain rfl : k = n2 := by omega
      clear hcon hfr hbel
      have z1 := HC.out.1.1.c0
      have z2 := HC.out.1.1.c1
      have z3 := HC.out.1.1.c2
      have hbx := BoxAt.fr HW.out.2.2.2.2.2.2 HC.out.2.1 (fun e => by have := HW.out.2.2.2.2.2.1; omega)
      have b0 := hbx.c0
      have b1 := hbx.c1
      have b2 := hbx.c2
      have b3 := hbx.f 0
      have b4 := hbx.f 1
      have b5 := hbx.f 2
      have HN : Hid (BoxAt (((wr.setCell ⟨w.heap.size, 0, none⟩ (.int .u64 (a0 : Nat))).setCell ⟨w.heap.size, 1, none⟩ (.slice pv n1 cv)).setCell ⟨w.heap.size, 2, none⟩ (.slice px k cx)) w.heap.size (.int .u64 (a0 : Nat)) (.slice pv n1 cv) (.slice px k cx) ∧ Rep (fun _ => True) 256 3 (((wr.setCell ⟨w.heap.size, 0, none⟩ (.int .u64 (a0 : Nat))).setCell ⟨w.heap.size, 1, none⟩ (.slice pv n1 cv)).setCell ⟨w.heap.size, 2, none⟩ (.slice px k cx)) (.slice pv n1 cv) (.slice px k cx) ((a0, uv, L.map (·.2.2)) : T 3) ∧ Below w.heap.size w (((wr.setCell ⟨w.heap.size, 0, none⟩ (.int .u64 (a0 : Nat))).setCell ⟨w.heap.size, 1, none⟩ (.slice pv n1 cv)).setCell ⟨w.heap.size, 2, none⟩ (.slice px k cx))) := by
        have hf : Fr (fun j => j = w.heap.size) wr (((wr.setCell ⟨w.heap.size, 0, none⟩ (.int .u64 (a0 : Nat))).setCell ⟨w.heap.size, 1, none⟩ (.slice pv n1 cv)).setCell ⟨w.heap.size, 2, none⟩ (.slice px k cx)) := ((((Fr.refl (fun j => j = w.heap.size) wr).setCell (p := ⟨w.heap.size, 0, none⟩) rfl _).setCell (p := ⟨w.heap.size, 1, none⟩) rfl _).setCell (p := ⟨w.heap.size, 2, none⟩) rfl _)
        obtain ⟨y1, y2, y3, y4, y5, y6, y7⟩ := HW.out
        obtain ⟨o1, o2, o3⟩ := HC.out
        refine ⟨((hbx.set0 _).set1 _).set2 _, ?_, o3.trans (hf.toBelow o3.size (fun j hj e => by omega))⟩
        have hr : Rep (fun j => j ≠ w.heap.size) 256 3 wr (.slice pv n1 cv) (.slice px k cx) ((a0, uv, L.map (·.2.2)) : T 3) := by
          subst y4
          refine mkRep (base := C1 + 1) (y3.keep (fun ad v hs e => ?_) (fun j _ hj => by omega)) o1.2.1 o1.2.2.1 (o1.2.2.2.1.mono (fun j _ hj => by have := hj.1; omega) (Nat.le_refl _)) (fun j hj => by omega) h1 (by omega)
          rw [o2.cell (cell_lt e) (fun e2 => by rcases e2 with e2 | e2 <;> omega)]
          exact e
        exact (hr.fr hf (fun j h e => h e)).mono (fun _ _ _ => trivial) (Nat.le_refl _)
      clear hbx
      go_wp2
      refine bodyPost_ret (results_cell_row rfl _ _ w.heap.size 30 #[.int .u64 (a0 : Nat), .slice pv n1 cv, .slice px k cx] (0, 0) _ rfl HN.out.1 Yba.underlying30 rfl (by kernel_rfl)) rfl ?_
      exact ⟨_, _, ((a0, uv, L.map (·.2.2)) : T 3), rfl, HN.out.2.1, HN.out.2.2⟩
end Go.Proofs.Ybulkbciw
