import Derived.Test.YbulkbciwK9
import Derived.Deep.RegionHeldLaw
import Derived.Deep.RegionLaw
namespace Go.Proofs.Ybulkbciw
open Go.RowKit
set_option linter.unusedSimpArgs false
set_option linter.unusedVariables false

/-- an append, its run known, at a step of a region that draws its order -/
theorem step_append_run {P : Program} {ops : Array Oper} {o : Oper} {a : Act} {w : World} {K : Act → World → Prop} {Q : Exit → Act → World → Prop} {E : Prop} (hgd : o.guard = none) (dst : Option Tmp) (hdst : o.dst = dst) (s x : Operand) (t tn : TypeId)
    (ho : o.op = .call { callee := .builtin .append, args := #[s, x], argTypes := #[t, tn] }) (b : Option Addr) (l c : Nat) (vx : Value) (hs : a.eval s = .slice b l c) (hx : a.eval x = vx) (v' : Value) (w' : World)
    (hr : (Builtin.append_ #[t, tn] o.type #[.slice b l c, vx]).run P w = .ok v' w') (h : K (a.put dst v') w') :
    if Region.wanted o (yielded ops a.tmps) = true then Oper.wp P o a w K Q else E := by
  have hw : Region.wanted o (yielded ops a.tmps) = true := by simp [Region.wanted, hgd]
  rw [if_pos hw]
  subst hdst
  unfold Oper.wp
  simp [execOp, ho, resolve, invoke, builtin, hs, hx, hr, Result.andThen]
  exact h

theorem IntRow.own {S : Nat → Prop} {w : World} {p : Option Addr} {u : List Int} (h : IntRow S w p u) : IntRow (fun k => S k ∧ p = some ⟨k, 0, none⟩) w p u := by
  rcases h with h | ⟨b, e, hb, hc⟩
  · exact .inl h
  · exact .inr ⟨b, e, ⟨hb, e⟩, hc⟩

theorem collapse {d a : Nat} {u : List Int} {x : List (T d)} {t : T d} (ha : a = 1) (h : Gathers d u x [] [t]) (p : Int → Bool) : satT p d t = satT p (d + 1) (a, u, x) := by
  subst ha
  exact (sat_only d t p).symm.trans (h.sat 1 p)

/-- what canonical leaves: a tree that holds where the given one holds -/
def CN (d : Nat) (w : World) (t : T d) (e : Ending) (w' : World) : Prop := ∃ vs is, ∃ t' : T d, e = .returned (.agg #[.int .u64 (thr d t' : Nat), vs, is]) ∧ Rep (fun k => w.heap.size ≤ k) 512 d w' vs is t' ∧ (∀ p, satT p d t' = satT p d t) ∧ Below w.heap.size w w'
def Can21 (d : Nat) : Prop := ∀ (w : World) (vs is : Value) (t : T d), Rep (fun _ => True) 256 d w vs is t → Calls Yba.prog 21 #[.agg #[.int .u64 (thr d t : Nat), vs, is]] w fun e w' => CN d w t e w'

set_option maxHeartbeats 1000000 in
set_option maxRecDepth 10000 in
theorem Can21.succ {d : Nat} (ih : Can21 d) : Can21 (d + 1) := by
  rintro w vs is ⟨a, u, x⟩ ⟨pu, cu, px, cx, rfl, rfl, l1, l2, hu, hx⟩
  simp only at l1 l2 hu hx ⊢
  obtain ⟨nu, hnu⟩ : ∃ n, u.length = n := ⟨_, rfl⟩
  obtain ⟨nx, hnx⟩ : ∃ n, x.length = n := ⟨_, rfl⟩
  have HU : Hid (IntRow (fun _ => True) w pu u ∧ SetRow (fun _ => True) 256 d w px x ∧ u.length = nu ∧ x.length = nx ∧ Can21 d) := ⟨hu, hx, hnu, hnx, ih⟩
  rw [hnu] at l1 ⊢
  rw [hnx] at l2 ⊢
  clear hu hx hnu hnx ih
  show Calls Yba.prog 21 #[.agg #[.int .u64 (a : Nat), .slice pu nu cu, .slice px nx cx]] w _
  go_enter Yba.func21, Yba.ntmps21
  go_wp2
  obtain ⟨B, hB⟩ : ∃ B, w.heap.size = B := ⟨_, rfl⟩
  obtain ⟨W4, hW4⟩ : ∃ W, (w.alloc (.cells #[.int .u64 (a : Nat), .slice pu nu cu, .slice px nx cx] 30)).alloc (.cells #[.int .u64 0, .slice none 0 0, .slice none 0 0] 30) = W := ⟨_, rfl⟩
  have H4 : Hid (Below w.heap.size w W4 ∧ W4.heap.size = B + 2 ∧ w.heap.size = B ∧ BoxAt W4 B (.int .u64 (a : Nat)) (.slice pu nu cu) (.slice px nx cx) ∧ BoxAt W4 (B + 1) (.int .u64 0) (.slice none 0 0) (.slice none 0 0)) := by
    subst hW4
    subst hB
    refine ⟨((Below.refl _ w).alloc (Nat.le_refl _) _).alloc (by simp) _, by simp, rfl, BoxAt.fr (BoxAt.new w _ _ _) ((Fr.refl (fun _ => False) _).alloc _) (fun e => e), ?_⟩
    have := BoxAt.new (w.alloc (.cells #[.int .u64 (a : Nat), .slice pu nu cu, .slice px nx cx] 30)) (.int .u64 0) (.slice none 0 0) (.slice none 0 0)
    simpa using this
  have m0 := H4.out.2.2.2.1.c0
  have m1 := H4.out.2.2.2.1.c1
  have m2 := H4.out.2.2.2.1.c2
  rw [hB, hW4]
  clear hB hW4
  obtain ⟨C2, hC2⟩ : ∃ C, W4.heap.size = C := ⟨_, rfl⟩
  obtain ⟨W5, hW5⟩ : ∃ W, (W4.alloc (.cells #[.int .u64 0, .slice none 0 0, .slice none 0 0] 30)).drew = W := ⟨_, rfl⟩
  have H5 : Hid (Below w.heap.size w W5 ∧ BoxAt W5 C2 (.int .u64 0) (.slice none 0 0) (.slice none 0 0) ∧ C2 = B + 2 ∧ W5.cell? ⟨B, 0, none⟩ = some (.int .u64 (a : Nat)) ∧ W5.cell? ⟨B, 1, none⟩ = some (.slice pu nu cu)) := by
    subst hW5
    subst hC2
    exact ⟨(H4.out.1.alloc H4.out.1.size _).drew, BoxAt.new W4 _ _ _, H4.out.2.1, cell_al m0 _, cell_al m1 _⟩
  have hMC : B ≠ C2 := by have := H5.out.2.2.1; omega
  have hMC2 : C2 ≠ B := fun e => hMC e.symm
  have m0' := H5.out.2.2.2.1
  have m1' := H5.out.2.2.2.2
  have hkeep : ∀ W, Below w.heap.size w W → IntRow (fun _ => True) W pu u := fun W hb => HU.out.1.keep (fun ad v _ e => cell_bl hb e) (fun _ _ e => e)
  have HQ : Hid (Calls Yba.prog 29 #[.slice pu nu cu] W5 fun e w' => ∃ q c', e = .returned (.slice q nu c') ∧ Own w' W5.heap.size 3 1 q nu c' (u.map (Value.int .i64)) ∧ Below W5.heap.size W5 w') := by
    have := clone29 pu cu u W5 (hkeep W5 H5.out.1) (by have := HU.out.2.2.1; omega)
    rw [HU.out.2.2.1] at this
    exact this
  have HQ2 : Hid (Calls Yba.prog 29 #[.slice pu nu cu] W4.drew fun e w' => ∃ q c', e = .returned (.slice q nu c') ∧ Own w' W4.drew.heap.size 3 1 q nu c' (u.map (Value.int .i64)) ∧ Below W4.drew.heap.size W4.drew w') := by
    have := clone29 pu cu u W4.drew (hkeep W4.drew H4.out.1.drew) (by have := HU.out.2.2.1; omega)
    rw [HU.out.2.2.1] at this
    exact this
  clear hkeep
  go_region_held3 (fun w' => w'.cell? ⟨B, 0, none⟩ = some (.int .u64 (a : Nat)) ∧ w'.cell? ⟨B, 1, none⟩ = some (.slice pu nu cu)) (first | go_keep | (exact ⟨hk0, hk1⟩))
    ((first
      | (go_at_call 29; refine HQ.out.mono ?_; rintro e w5 ⟨q, c', rfl, hrm, hb5⟩; have hbx := BoxAt.fr H5.out.2.1 (Below.toFr hb5) (fun e => e); have b0 := hbx.c0; have b1 := hbx.c1; have b2 := hbx.c2; have b3 := hbx.f 0; have b4 := hbx.f 1; have b5 := hbx.f 2; have hk0 := cell_bl hb5 H5.out.2.2.2.1; have hk1 := cell_bl hb5 H5.out.2.2.2.2)
      | (go_at_call 29; refine HQ2.out.mono ?_; rintro e w5 ⟨q, c', rfl, hrm, hb5⟩; have hk0 := cell_bl hb5 (show W4.drew.cell? ⟨B, 0, none⟩ = some (.int .u64 (a : Nat)) from m0); have hk1 := cell_bl hb5 (show W4.drew.cell? ⟨B, 1, none⟩ = some (.slice pu nu cu) from m1))))
  all_goals first
    | (subst hW5
       subst hC2
       obtain ⟨C, W6, hC, hW6, HX⟩ : ∃ C W6, W4.heap.size = C ∧ ((w5.setCell ⟨W4.heap.size, 0, none⟩ (.int .u64 (a : Nat))).setCell ⟨W4.heap.size, 1, none⟩ (.slice q nu c')).setCell ⟨W4.heap.size, 2, none⟩ (.slice none 0 0) = W6 ∧ Hid (AftC W4 W6 C (.int .u64 (a : Nat)) q u c' d) := by
         refine ⟨_, _, rfl, rfl, ?_⟩
         have hh := HU.out.2.2.1
         subst hh
         exact aftcA hb5 hrm
       rw [hW6, hC]
       clear hW6 hC hbx b0 b1 b2 b3 b4 b5)
    | (obtain ⟨C, W6, hC, hW6, HX⟩ : ∃ C W6, w5.heap.size = C ∧ w5.alloc (.cells #[.int .u64 (a : Nat), .slice q nu c', .slice none 0 0] 30) = W6 ∧ Hid (AftC W4 W6 C (.int .u64 (a : Nat)) q u c' d) := by
         refine ⟨_, _, rfl, rfl, ?_⟩
         have hh := HU.out.2.2.1
         subst hh
         exact aftcB hb5 hrm
       rw [hW6, hC]
       clear hW6 hC)
  all_goals
    rename_i hheld
    clear hheld hk0 hk1 hb5 hrm hMC hMC2 m0' m1' H5 HQ HQ2 m0 m1
    have b2 := cell_bl HX.out.2 m2
    go_wp2
    have H6 : Hid (CSt (B + 2) d W6 C (.int .u64 (a : Nat)) q u c' none [] 0 ∧ Below (B + 2) W4 W6) := by
      have h := HX.out
      unfold AftC at h
      rw [H4.out.2.1] at h
      exact h
    clear HX
    go_loopw [15] (fun i wr => ∃ (j : Nat) (pU : Option Addr) (U : List Int) (cU : Nat) (pX : Option Addr) (L : List (El d)) (cX : Nat), i = .int .i64 j ∧ j ≤ nx ∧ CSt (B + 2) d wr C (.int .u64 (a : Nat)) pU U cU pX L cX ∧ Below (B + 2) W4 wr ∧ Gathers d u (x.take j) U (L.map (·.2.2)) ∧ U.length + L.length = nu + j) (fun i _ => nx - (intOf i).toNat)
    case atStart => exact ⟨0, q, u, c', none, [], 0, rfl, Nat.zero_le _, H6.out.1, H6.out.2, Gathers.nil d u, by rw [HU.out.2.2.1]; rfl⟩
    case round =>
      obtain ⟨j, pU, U, cU, pX, L, cX, rfl, hj, hst, hbl, hga, hln⟩ := hrel
      have hwb : Below w.heap.size w wr := H4.out.1.trans (hbl.mono (by have := H4.out.2.2.1; omega))
      have HS : Hid (CSt (B + 2) d wr C (.int .u64 (a : Nat)) pU U cU pX L cX ∧ Below (B + 2) W4 wr ∧ Gathers d u (x.take j) U (L.map (·.2.2)) ∧ U.length + L.length = nu + j ∧ Below w.heap.size w wr) := ⟨hst, hbl, hga, hln, hwb⟩
      clear hst hbl hga hln
      by_cases hlt : j < nx
      · have hlx : j < x.length := by have := HU.out.2.2.2.1; omega
        rcases HU.out.2.1.below hwb with h1 | ⟨bx, e, _, hc⟩
        · rw [h1] at hlx; simp at hlx
        · subst e
          clear hwb
          obtain ⟨vs, is, a1, a2, a3, hr1⟩ := hc j hlx
          clear hc
          obtain ⟨r1, r2, r3, r4, r5, r6, rfl, rfl⟩ := Rep.slices d _ _ _ hr1
          have HT : Hid (x.take (j + 1) = x.take j ++ [x[j]]) := List.take_succ_eq_append_getElem hlx
          have HC : Hid (Rep (fun _ => True) 256 d wr (.slice r1 r2 r3) (.slice r4 r5 r6) x[j]) := hr1
          clear hr1
          generalize x[j] = t at *
          obtain ⟨n1, hn1⟩ : ∃ n, thr d t = n := ⟨_, rfl⟩
          have HN : Hid (thr d t = n1) := hn1
          rw [hn1] at a1
          clear hn1
          go_wp2_with (go_at_call 21; fail)
          have hcon := HU.out.2.2.2.2 _ _ _ t (HC.out.below ((Below.refl _ wr).alloc (Nat.le_refl _) (.cells #[.int .u64 n1, .slice r1 r2 r3, .slice r4 r5 r6] 30)))
          rw [HN.out] at hcon
          refine hcon.mono ?_
          clear hcon a1 a2 a3
          rintro e w7 ⟨vs7, is7, t7, rfl, hr7, hs7, hb7⟩
          obtain ⟨p7, n7, c7, px7, nx7, cx7, rfl, rfl, hn7, hnx7, hone⟩ := Rep.parts d _ _ _ hr7
          obtain ⟨n5, hn5⟩ : ∃ n, thr d t7 = n := ⟨_, rfl⟩
          rw [hn5] at hone ⊢
          obtain ⟨I, hI⟩ : ∃ I, wr.heap.size = I := ⟨_, rfl⟩
          obtain ⟨W8, hW8⟩ : ∃ W, ((w7.setCell ⟨I, 0, none⟩ (.int .u64 (n5 : Nat))).setCell ⟨I, 1, none⟩ (.slice p7 n7 c7)).setCell ⟨I, 2, none⟩ (.slice px7 nx7 cx7) = W := ⟨_, rfl⟩
          have hbx7 : BoxAt w7 I (.int .u64 n1) (.slice r1 r2 r3) (.slice r4 r5 r6) := by rw [← hI]; exact BoxAt.fr (BoxAt.new wr _ _ _) (Below.toFr hb7) (fun e => e)
          have hf8 : Fr (fun j => j = I) w7 W8 := by rw [← hW8]; exact ((((Fr.refl (fun j => j = I) w7).setCell (p := ⟨I, 0, none⟩) rfl _).setCell (p := ⟨I, 1, none⟩) rfl _).setCell (p := ⟨I, 2, none⟩) rfl _)
          have hbx8 : BoxAt W8 I (.int .u64 (n5 : Nat)) (.slice p7 n7 c7) (.slice px7 nx7 cx7) := by rw [← hW8]; exact ((hbx7.set0 _).set1 _).set2 _
          have hb8 : Below wr.heap.size wr W8 := (((Below.refl _ wr).alloc (Nat.le_refl _) (.cells #[.int .u64 n1, .slice r1 r2 r3, .slice r4 r5 r6] 30)).trans (hb7.mono (by simp))).trans (hf8.toBelow (by have := hb7.size; simp at this; omega) (fun k hk e => by omega))
          have hst8 : CSt (B + 2) d W8 C (.int .u64 (a : Nat)) pU U cU pX L cX := HS.out.1.below hb8
          have hCI : C ≠ I := by have := HS.out.1.1.lt; omega
          have hr8 : Rep (SC (B + 2) C pU pX) 512 d W8 (.slice p7 n7 c7) (.slice px7 nx7 cx7) t7 := by
            refine Rep.keep (fun ad v hs e => ?_) (fun k hk hs => ?_) (Nat.le_refl _) d _ _ _ hr7
            · rw [hf8.cell (cell_lt e) (fun hh => by simp at hs; omega)]; exact e
            · simp at hs
              have hC := HS.out.1.1.lt
              have hb2 := HS.out.2.1.size
              have h42 := H4.out.2.1
              refine ⟨by omega, by omega, fun hh => by have := (HS.out.1.2.1.blk hh).2; omega, fun hh => by have := (HS.out.1.2.2.1.blk hh).2; omega⟩
          have HK : Hid (CSt (B + 2) d W8 C (.int .u64 (a : Nat)) pU U cU pX L cX ∧ Rep (SC (B + 2) C pU pX) 512 d W8 (.slice p7 n7 c7) (.slice px7 nx7 cx7) t7 ∧ (∀ p, satT p d t7 = satT p d t) ∧ Below (B + 2) W4 W8 ∧ thr d t7 = n5) := ⟨hst8, hr8, hs7, HS.out.2.1.trans (hb8.mono (by have := HS.out.2.1.size; have := H4.out.2.1; omega)), hn5⟩
          have y0 := hbx7.c0
          have y1 := hbx7.c1
          have y2 := hbx7.c2
          have y3 := hbx7.f 0
          have y4 := hbx7.f 1
          have y5 := hbx7.f 2
          have z0 := hbx8.c0
          have z1 := hbx8.c1
          have z2 := hbx8.c2
          have hI2 : I ≠ C := fun e => hCI e.symm
          obtain ⟨nU, hnU⟩ : ∃ n, U.length = n := ⟨_, rfl⟩
          obtain ⟨nX, hnX⟩ : ∃ n, L.length = n := ⟨_, rfl⟩
          have HL : Hid (U.length = nU ∧ L.length = nX) := ⟨hnU, hnX⟩
          have k1 := hst8.1.c1
          have k2 := hst8.1.c2
          rw [hnU] at k1
          rw [hnX] at k2
          clear hnU hnX
          rw [hI]
          have hq : (((n5 : Int) == 1) = false) ∨ (((n5 : Int) == 1) = true ∧ ((n7 : Int) == 1) = false) ∨ (((n5 : Int) == 1) = true ∧ ((n7 : Int) == 1) = true ∧ ((nx7 : Int) == 0) = false) ∨ (((n5 : Int) == 1) = true ∧ ((n7 : Int) == 1) = true ∧ ((nx7 : Int) == 0) = true ∧ n5 = 1 ∧ n7 = 1 ∧ nx7 = 0) := by
            simp only [beq_eq_false_iff_ne, beq_iff_eq]
            omega
          rcases hq with q1 | ⟨q1, q2⟩ | ⟨q1, q2, q3⟩ | ⟨q1, q2, q3, e5, e7, ex7⟩
          rotate_left 3
          · clear hone
            obtain ⟨_, _, _, _, _, _, e1, e2, _, _, hone⟩ := Rep.parts d _ _ _ hr8
            cases e1
            cases e2
            obtain ⟨v, bv, e9, hcv, hsv⟩ := hone (hn5.trans e5) e7 ex7
            subst e9
            have hpos : 0 < n7 := by omega
            clear e5 e7 ex7 hone
            obtain ⟨g', cg, w2, r, bx2, con2, bel2⟩ := CSt.appU (w := W8.drew) (hst8.below (Below.refl _ W8).drew) (by have := HS.out.2.2.2.1; omega) v
            rw [HL.out.1] at r bx2
            have x1 := bx2.c1
            have x2 := bx2.f 1
            have HF : Hid (CSt (B + 2) d (w2.setCell ⟨C, 1, none⟩ (.slice (some ⟨g', 0, none⟩) (nU + 1) cg)) C (.int .u64 (a : Nat)) (some ⟨g', 0, none⟩) (U ++ [v]) cg pX L cX ∧ Below (B + 2) W8.drew (w2.setCell ⟨C, 1, none⟩ (.slice (some ⟨g', 0, none⟩) (nU + 1) cg))) := by
              rw [HL.out.1] at con2 bel2
              exact ⟨con2, bel2⟩
            clear bx2 con2 bel2 hst8 hr8 hr7 hb7 hb8 hf8 hbx7 hbx8 hn5
            go_wp2
            have HR : Hid _ := r
            clear r
            have ka := cell_al k1
            have kb := cell_al z1
            have kc := cell_al hcv
            go_region_law (first | (refine step_append_run rfl (some 50) rfl (.tmp 44) (.tmp 49) 27 27 rfl pU nU cU (.slice (some ⟨W8.heap.size, 0, none⟩) 1 1) (by simp [Act.eval, Act.put]) (by simp [Act.eval, Act.put]) _ _ HR.out ?_))
            all_goals
              go_wp2
              go_roundw
              case rel => exact ⟨j + 1, some ⟨g', 0, none⟩, U ++ [v], cg, pX, L, cX, by go_num, by omega, HF.out.1, HK.out.2.2.2.1.trans ((Below.refl _ W8).drew.trans HF.out.2), by rw [HT.out]; exact HS.out.2.2.1.node t v (fun p => (HK.out.2.2.1 p).symm.trans (hsv p)), by have := HS.out.2.2.2.1; simp; omega⟩
              case measure => simp [intOf]; omega
          all_goals
            clear hone
            obtain ⟨g', cg, w2, r, bx2, con2, bel2⟩ := hst8.appX (by have := HS.out.2.2.2.1; omega) ((.slice p7 n7 c7), (.slice px7 nx7 cx7), t7) hr8
            rw [HL.out.2] at r bx2
            simp only [hn5] at r
            have HR : Hid _ := r
            have x1 := bx2.c2
            have x2 := bx2.f 2
            have HF : Hid (CSt (B + 2) d (w2.setCell ⟨C, 2, none⟩ (.slice (some ⟨g', 0, none⟩) (nX + 1) cg)) C (.int .u64 (a : Nat)) pU U cU (some ⟨g', 0, none⟩) (L ++ [((.slice p7 n7 c7), (.slice px7 nx7 cx7), t7)]) cg ∧ Below (B + 2) W8 (w2.setCell ⟨C, 2, none⟩ (.slice (some ⟨g', 0, none⟩) (nX + 1) cg))) := by
              rw [HL.out.2] at con2 bel2
              exact ⟨con2, bel2⟩
            clear r bx2 con2 bel2 hst8 hr8 hr7 hb7 hb8 hf8 hbx7 hbx8 hn5
            go_wp2_with (at_builtin; refine Lib.wpList_append_run _ rfl _ _ 28 28 rfl _ _ rfl rfl _ _ HR.out ?_)
            go_roundw
            case rel => exact ⟨j + 1, pU, U, cU, _, _, cg, by go_num, by omega, HF.out.1, HK.out.2.2.2.1.trans HF.out.2, by rw [HT.out, List.map_append]; exact HS.out.2.2.1.inner t t7 HK.out.2.2.1, by have := HS.out.2.2.2.1; simp; omega⟩
            case measure => simp [intOf]; omega
      · obtain rfl : j = nx := by omega
        clear hwb
        have HTK : Hid (x.take j = x) := List.take_of_length_le (by have := HU.out.2.2.2.1; omega)
        obtain ⟨nU, hnU⟩ : ∃ n, U.length = n := ⟨_, rfl⟩
        obtain ⟨nX, hnX⟩ : ∃ n, L.length = n := ⟨_, rfl⟩
        have HL : Hid (U.length = nU ∧ L.length = nX) := ⟨hnU, hnX⟩
        have hle : nU ≤ 512 ∧ nX ≤ 512 := by have := HS.out.2.2.2.1; omega
        have k1 := HS.out.1.1.c1
        rw [hnU] at k1
        clear hnU hnX
        go_wp2_with (go_at_call 30; fail)
        have hc30 := sort30 HS.out.1.2.1 rfl (by have := HL.out.1; omega)
        rw [HL.out.1] at hc30
        refine hc30.mono ?_
        clear hc30 k1
        rintro e w8 ⟨rfl, U', hpU, hrU, hfU⟩
        have H8 : Hid (BoxAt w8 C (.int .u64 (a : Nat)) (.slice pU nU cU) (.slice pX nX cX) ∧ Own w8 (B + 2) 30 3 pX L.length cX (cellsOf d L) ∧ Elems (SE (B + 2) pX) 512 d w8 L ∧ U'.Perm U ∧ IntRow (fun k => B + 2 ≤ k ∧ pX ≠ some ⟨k, 0, none⟩) w8 pU U' ∧ Below (B + 2) wr w8) := by
          obtain ⟨h1, h2, h3, h4, h5, h6, h7⟩ := HS.out.1
          rw [HL.out.1, HL.out.2] at h1
          refine ⟨h1.fr hfU (fun e => (h4 C e).1 rfl), h3.fr hfU (fun k o s e hh => ?_), fun e he => ?_, hpU, hrU.own.keep (fun _ _ _ e => e) (fun k _ hk => ⟨hk.1, (h4 k hk.2).2⟩), hfU.toBelow (by have := h1.lt; omega) (fun k hk e => by have := (h2.blk e).1; omega)⟩
          · rcases h3.at with ⟨e2, _⟩ | ⟨g, e2, _⟩
            · rw [e2] at e; cases e
            · rw [e2] at e; cases e; exact (h4 _ hh).2 e2
          · exact Rep.keep (fun ad v hs e => by rw [hfU.cell (cell_lt e) (fun hh => hs.2.2.1 hh)]; exact e) (fun k _ hs => ⟨hs.1, hs.2.2.2⟩) (Nat.le_refl _) d _ _ _ (h6 e he)
        clear hpU hrU hfU
        have k2 := H8.out.1.c2
        go_wp2_with (go_at_call 31; fail)
        have hc31 := sort31 H8.out.2.1 rfl (by have := HL.out.2; omega) H8.out.2.2.1
        rw [HL.out.2] at hc31
        refine hc31.mono ?_
        clear hc31 k2
        rintro e w9 ⟨rfl, L', hpL, hrL, heL, hfL⟩
        have H9 : Hid (BoxAt w9 C (.int .u64 (a : Nat)) (.slice pU nU cU) (.slice pX nX cX) ∧ BoxAt w9 (B + 1) (.int .u64 0) (.slice none 0 0) (.slice none 0 0) ∧ IntRow (fun k => B + 2 ≤ k) w9 pU U' ∧ Below w.heap.size w w9 ∧ Gathers d u x U' (L'.map (·.2.2)) ∧ U'.length = nU ∧ L'.length = nX ∧ Elems (fun k => B + 2 ≤ k) 512 d w9 L' ∧ (L' = [] ∨ ∃ g, pX = some ⟨g, 0, none⟩ ∧ B + 2 ≤ g ∧ RowHas d w9 g L')) := by
          obtain ⟨h1, h2, h3, h4, h5, h6⟩ := H8.out
          obtain ⟨s1, s2, s3, s4, s5, s6, s7⟩ := HS.out.1
          have hb9 : Below (B + 2) wr w9 := h6.trans (hfL.toBelow (by have := h1.lt; have := s7; omega) (fun k hk e => by have := (h2.blk e).1; omega))
          have hb49 := HS.out.2.1.trans hb9
          refine ⟨h1.fr hfL (fun e => s5 C e rfl), ?_, h5.keep (fun ad v hs e => ?_) (fun _ _ e => e.1), H4.out.1.trans (hb49.mono (by have := H4.out.2.2.1; omega)), ?_, by rw [h4.length_eq, HL.out.1], by rw [hpL.length_eq, HL.out.2], heL.mono (fun k _ hk => hk.1) (Nat.le_refl _), hrL⟩
          · have := H4.out.2.2.2.2
            unfold BoxAt at this ⊢
            rw [hb49.block (B + 1) (by omega)]
            exact this
          · rw [hfL.cell (cell_lt e) (fun hh => hs.2 hh)]
            exact e
          · have := HS.out.2.2.1
            rw [HTK.out] at this
            exact this.perm h4 (hpL.map _)
        clear hpL hrL heL hfL
        have hbx := H9.out.1
        have z0 := hbx.c0
        have z1 := hbx.c1
        have z2 := hbx.c2
        have hbr := H9.out.2.1
        have y0 := hbr.c0
        have y1 := hbr.c1
        have y2 := hbr.c2
        have y3 := hbr.f 0
        have y4 := hbr.f 1
        have y5 := hbr.f 2
        clear hbx
        have hq : (((a : Int) == 1) = false) ∨ (((a : Int) == 1) = true ∧ ((nU : Int) == 0) = false) ∨ (((a : Int) == 1) = true ∧ ((nU : Int) == 0) = true ∧ ((nX : Int) == 1) = false) ∨ (((a : Int) == 1) = true ∧ ((nU : Int) == 0) = true ∧ ((nX : Int) == 1) = true ∧ a = 1 ∧ nU = 0 ∧ nX = 1) := by
          simp only [beq_eq_false_iff_ne, beq_iff_eq]
          omega
        rcases hq with q1 | ⟨q1, q2⟩ | ⟨q1, q2, q3⟩ | ⟨q1, q2, q3, e5, e7, ex7⟩
        rotate_left 3
        · obtain ⟨n1, n2, n3, n4, n5, n6, n7, n8, n9⟩ := H9.out
          obtain ⟨el, hel⟩ : ∃ el, L' = [el] := List.length_eq_one_iff.1 (n7.trans ex7)
          have hU0 : U' = [] := List.length_eq_zero_iff.1 (n6.trans e7)
          rcases n9 with n9 | ⟨g, hpg, hg, hrow⟩
          · rw [n9] at hel; cases hel
          · subst hpg
            subst hel
            obtain ⟨g0, g1, g2⟩ := hrow 0 (by simp)
            have hrep := n8 el (by simp)
            obtain ⟨vs9, is9, t9⟩ := el
            simp only at g0 g1 g2 hrep
            obtain ⟨f1, f2, f3, f4, f5, f6, rfl, rfl⟩ := Rep.slices d _ _ _ hrep
            obtain ⟨nt, hnt⟩ : ∃ n, thr d t9 = n := ⟨_, rfl⟩
            have HP : Hid (Rep (fun k => B + 2 ≤ k) 512 d w9 (.slice f1 f2 f3) (.slice f4 f5 f6) t9 ∧ thr d t9 = nt ∧ Gathers d u x [] [t9] ∧ BoxAt w9 (B + 1) (.int .u64 0) (.slice none 0 0) (.slice none 0 0) ∧ Below w.heap.size w w9 ∧ a = 1) := by
              rw [hU0] at n5
              exact ⟨hrep, hnt, n5, n2, n4, e5⟩
            have g0' : w9.cell? ⟨g, 0, none⟩ = some (.int .u64 (nt : Nat)) := by rw [← hnt]; simpa using g0
            have g1' : w9.cell? ⟨g, 1, none⟩ = some (.slice f1 f2 f3) := by simpa using g1
            have g2' : w9.cell? ⟨g, 2, none⟩ = some (.slice f4 f5 f6) := by simpa using g2
            have hpos : 0 < nX := by omega
            clear n1 n2 n3 n4 n5 n6 n7 n8 hrow g0 g1 g2 hrep hnt e5 e7 ex7 hbr
            go_wp2
            have HE : Hid (BoxAt (((w9.setCell ⟨B + 1, 0, none⟩ (.int .u64 (nt : Nat))).setCell ⟨B + 1, 1, none⟩ (.slice f1 f2 f3)).setCell ⟨B + 1, 2, none⟩ (.slice f4 f5 f6)) (B + 1) (.int .u64 (nt : Nat)) (.slice f1 f2 f3) (.slice f4 f5 f6) ∧ Rep (fun k => w.heap.size ≤ k) 512 d (((w9.setCell ⟨B + 1, 0, none⟩ (.int .u64 (nt : Nat))).setCell ⟨B + 1, 1, none⟩ (.slice f1 f2 f3)).setCell ⟨B + 1, 2, none⟩ (.slice f4 f5 f6)) (.slice f1 f2 f3) (.slice f4 f5 f6) t9 ∧ Below w.heap.size w (((w9.setCell ⟨B + 1, 0, none⟩ (.int .u64 (nt : Nat))).setCell ⟨B + 1, 1, none⟩ (.slice f1 f2 f3)).setCell ⟨B + 1, 2, none⟩ (.slice f4 f5 f6))) := by
              have hf : Fr (fun k => k = B + 1) w9 (((w9.setCell ⟨B + 1, 0, none⟩ (.int .u64 (nt : Nat))).setCell ⟨B + 1, 1, none⟩ (.slice f1 f2 f3)).setCell ⟨B + 1, 2, none⟩ (.slice f4 f5 f6)) := ((((Fr.refl (fun k => k = B + 1) w9).setCell (p := ⟨B + 1, 0, none⟩) rfl _).setCell (p := ⟨B + 1, 1, none⟩) rfl _).setCell (p := ⟨B + 1, 2, none⟩) rfl _)
              have hBw := H4.out.2.2.1
              refine ⟨((HP.out.2.2.2.1.set0 _).set1 _).set2 _, (HP.out.1.fr hf (fun k hk e => by omega)).mono (fun k _ hk => by omega) (Nat.le_refl _), HP.out.2.2.2.2.1.trans (hf.toBelow HP.out.2.2.2.2.1.size (fun k hk e => by omega))⟩
            refine bodyPost_ret (results_cell_row rfl _ _ (B + 1) 30 #[.int .u64 (nt : Nat), .slice f1 f2 f3, .slice f4 f5 f6] (0, 0) _ rfl HE.out.1 Yba.underlying30 rfl (by kernel_rfl)) rfl ?_
            refine ⟨_, _, up d t9, ?_, Rep.up d _ _ _ HE.out.2.1, fun p => ?_, HE.out.2.2⟩
            · rw [thr_up, HP.out.2.1]
            · rw [sat_up]
              exact collapse HP.out.2.2.2.2.2 HP.out.2.2.1 p
        all_goals
          have HE : Hid (BoxAt (((w9.setCell ⟨B + 1, 0, none⟩ (.int .u64 (a : Nat))).setCell ⟨B + 1, 1, none⟩ (.slice pU nU cU)).setCell ⟨B + 1, 2, none⟩ (.slice pX nX cX)) (B + 1) (.int .u64 (a : Nat)) (.slice pU nU cU) (.slice pX nX cX) ∧ Rep (fun k => w.heap.size ≤ k) 512 (d + 1) (((w9.setCell ⟨B + 1, 0, none⟩ (.int .u64 (a : Nat))).setCell ⟨B + 1, 1, none⟩ (.slice pU nU cU)).setCell ⟨B + 1, 2, none⟩ (.slice pX nX cX)) (.slice pU nU cU) (.slice pX nX cX) (a, U', L'.map (·.2.2)) ∧ Below w.heap.size w (((w9.setCell ⟨B + 1, 0, none⟩ (.int .u64 (a : Nat))).setCell ⟨B + 1, 1, none⟩ (.slice pU nU cU)).setCell ⟨B + 1, 2, none⟩ (.slice pX nX cX))) := by
            have hf : Fr (fun k => k = B + 1) w9 (((w9.setCell ⟨B + 1, 0, none⟩ (.int .u64 (a : Nat))).setCell ⟨B + 1, 1, none⟩ (.slice pU nU cU)).setCell ⟨B + 1, 2, none⟩ (.slice pX nX cX)) := ((((Fr.refl (fun k => k = B + 1) w9).setCell (p := ⟨B + 1, 0, none⟩) rfl _).setCell (p := ⟨B + 1, 1, none⟩) rfl _).setCell (p := ⟨B + 1, 2, none⟩) rfl _)
            obtain ⟨n1, n2, n3, n4, n5, n6, n7, n8, n9⟩ := H9.out
            have hBw := H4.out.2.2.1
            have hrep : Rep (fun k => B + 2 ≤ k) 512 (d + 1) w9 (.slice pU nU cU) (.slice pX nX cX) (a, U', L'.map (·.2.2)) := by
              have := mkRep2 (a := a) (cu := cU) (cx := cX) n3 n9 n8 (by omega) (by omega)
              rw [n6, n7] at this
              exact this
            refine ⟨((hbr.set0 _).set1 _).set2 _, (hrep.fr hf (fun k hk e => by omega)).mono (fun k _ hk => by omega) (Nat.le_refl _), n4.trans (hf.toBelow n4.size (fun k hk e => by omega))⟩
          clear hbr
          go_wp2
          refine bodyPost_ret (results_cell_row rfl _ _ (B + 1) 30 #[.int .u64 (a : Nat), .slice pU nU cU, .slice pX nX cX] (0, 0) _ rfl HE.out.1 Yba.underlying30 rfl (by kernel_rfl)) rfl ?_
          exact ⟨_, _, (a, U', L'.map (·.2.2)), rfl, HE.out.2.1, fun p => H9.out.2.2.2.2.1.sat a p, HE.out.2.2⟩

theorem can21 : (d : Nat) → Can21 d
  | 0 => fun _ _ _ t => nomatch t
  | d + 1 => Can21.succ (can21 d)
end Go.Proofs.Ybulkbciw
