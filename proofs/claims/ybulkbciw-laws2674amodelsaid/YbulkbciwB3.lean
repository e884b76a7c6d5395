import Derived.Test.YbulkbciwB2
namespace Go.Proofs.Ybulkbciw
open Go.RowKit
set_option linter.unusedSimpArgs false
set_option linter.unusedVariables false

theorem make27 (n : Nat) (hn : n ≤ 100) (w : World) : (Instr.makeSlice 27 (.int .i64 (n : Int)) (.int .i64 (n : Int))).run Yba.prog w = .ok (.slice (some ⟨w.heap.size, 0, none⟩) n n) (w.alloc (.cells (madeCells #[.int .i64 0] n) 3)) := by
  obtain ⟨i, hi, hz⟩ := Option.map_eq_some_iff.1 info3
  simp only [Prod.mk.injEq] at hz
  have h := run_make (P := Yba.prog) w 27 3 i (.int .i64 0) Yba.underlying27 hi hz.1 .i64 .i64 (n : Int) (n : Int) (by omega) (by omega) (by rw [hz.2.2]; omega) (by omega)
  simp only [hz.2.1, Nat.mul_one, Int.toNat_natCast, Value.cells] at h
  exact h

theorem make27' (L : Nat) (hL : L ≤ 40) (w : World) : (Instr.makeSlice 27 (.int .i64 ((L : Int) + 1)) (.int .i64 ((L : Int) + 1))).run Yba.prog w = .ok (.slice (some ⟨w.heap.size, 0, none⟩) (L + 1) (L + 1)) (w.alloc (.cells (madeCells #[.int .i64 0] (L + 1)) 3)) :=
  make27 (L + 1) (by omega) w
theorem slice51 (L : Nat) (hL : L < 16) (b : Nat) (w : World) : (Instr.sliceAt 51 (.pointer (some ⟨b, 0, none⟩)) none (some (.int .i64 ((L : Int) + 1))) none).run Yba.prog w = .ok (.slice (some ⟨b, 0, none⟩) (L + 1) 16) w := by
  have hal : Yba.prog.arrayLen 51 = 16 := by kernel_rfl
  have hel : Yba.prog.elem 51 = 3 := by kernel_rfl
  obtain ⟨i, hi, hz⟩ := Option.map_eq_some_iff.1 info3
  simp only [Prod.mk.injEq] at hz
  have h := run_sliceAt_array_h (P := Yba.prog) w 51 ⟨b, 0, none⟩ (by kernel_rfl) .i64 ((L : Int) + 1) (by omega) (by rw [hal]; omega)
  rw [h, hal, hel]
  have hco : Yba.prog.cellsOf 3 = 1 := by kernel_rfl
  rw [run_sizeOf _ hi, hco]
  simp only [slicedAt, Addr.add]
  simp
  try omega

theorem made_i64 (n : Nat) : madeCells #[Value.int .i64 0] n = Array.replicate n (Value.int .i64 0) := by
  apply Array.ext'
  simp only [madeCells]
  apply List.ext_getElem
  · simp
  · intro i h1 h2
    simp [Nat.mod_one]
theorem CRow.new (w : World) (n L : Nat) (h : L < n) (e : TypeId) : CRow (w.alloc (.cells (Array.replicate n (Value.int .i64 0)) e)) w.heap.size L [] :=
  ⟨_, e, heap_alloc_new _ _, fun i hi => by simp [Array.getElem?_replicate]; omega⟩
theorem arm_small (L : Nat) (hs : L < 16) (w W0 W1 : World) (e : W0.alloc (.cells #[.int .i64 0, .int .i64 0, .int .i64 0, .int .i64 0, .int .i64 0, .int .i64 0, .int .i64 0, .int .i64 0, .int .i64 0, .int .i64 0, .int .i64 0, .int .i64 0, .int .i64 0, .int .i64 0, .int .i64 0, .int .i64 0] 51) = W1) (Q : Nat) (hQ : W0.heap.size = Q + 1) :
    ∃ cc gc W2, (Instr.sliceAt 51 (.pointer (some ⟨Q + 1, 0, none⟩)) none (some (.int .i64 ((L : Int) + 1))) none).run Yba.prog W1 = .ok (.slice (some ⟨gc, 0, none⟩) (L + 1) cc) W2 ∧ CRow W2 gc L [] ∧ Q + 1 ≤ gc ∧ Below W1.heap.size W1 W2 := by
  refine ⟨16, Q + 1, W1, slice51 L hs (Q + 1) W1, ?_, Nat.le_refl _, Below.refl _ _⟩
  rw [← e, ← hQ]
  exact CRow.new W0 16 L hs 51
theorem arm_big (L : Nat) (hL : L ≤ 40) (W1 : World) (Q : Nat) (hQ : W1.heap.size = Q + 2) :
    ∃ cc gc W2, (Instr.makeSlice 27 (.int .i64 ((L : Int) + 1)) (.int .i64 ((L : Int) + 1))).run Yba.prog W1 = .ok (.slice (some ⟨gc, 0, none⟩) (L + 1) cc) W2 ∧ CRow W2 gc L [] ∧ Q + 1 ≤ gc ∧ Below W1.heap.size W1 W2 := by
  refine ⟨L + 1, W1.heap.size, _, make27' L hL W1, ?_, by omega, (Below.refl _ _).alloc (Nat.le_refl _) _⟩
  rw [made_i64]
  exact CRow.new W1 (L + 1) L (by omega) 3

theorem byCount_step {D : Bool} {L kk nd s R v : Nat} {cnt : Nat → Nat} (h : byCount D L cnt (L + 1 - kk) kk nd s = R) (hk : kk ≤ L) (hv : cnt kk = v) :
    (nd ≤ v → share D L kk nd s = R) ∧ (v < nd → byCount D L cnt (L + 1 - (kk + 1)) (kk + 1) (nd - v) (share D L kk v s) = R) := by
  rw [show L + 1 - kk = (L + 1 - (kk + 1)) + 1 by omega] at h
  unfold byCount at h
  rw [hv] at h
  refine ⟨fun h1 => ?_, fun h1 => ?_⟩
  · rw [Nat.min_eq_right h1, if_pos (Nat.sub_self nd)] at h
    exact h
  · rw [Nat.min_eq_left (Nat.le_of_lt h1), if_neg (by omega)] at h
    exact h
theorem share_le {D : Bool} {L k t s : Nat} (h : s ≤ L) (hk : k ≤ L) : share D L k t s ≤ L := by
  unfold share
  split
  · exact h
  · split <;> omega
theorem share_zero (D : Bool) (L k s : Nat) : share D L k 0 s = s := if_pos rfl
theorem share_true {L k t s : Nat} (h : t ≠ 0) : share true L k t s = min (s + t * k) L := by unfold share; rw [if_neg h]; rfl
theorem share_false {L k t s : Nat} (h : t ≠ 0) : share false L k t s = k := by unfold share; rw [if_neg h]; rfl
theorem need_count {D : Bool} {L a R : Nat} {cs : List Nat} (h : need D L a cs = R) (hc : ∀ c ∈ cs, c ≤ L) (h1 : ¬ cs.length < a) (h2 : a ≠ 0) : byCount D L (fun k => cs.count k) (L + 1 - 0) 0 a 0 = R := by
  unfold need at h
  rw [if_neg h1, if_neg h2] at h
  rw [← h]
  exact count_sort D L a cs (sortN cs) (sortN_perm cs) (sortN_sorted cs) hc
theorem wrap_prod {t k : Nat} (h1 : t ≤ 800) (h2 : k ≤ 40) : wrap64 ((t : Int) * (k : Int)) = ((t * k : Nat) : Int) := by
  have h3 : t * k ≤ 800 * 40 := Nat.mul_le_mul h1 h2
  have h4 : (t : Int) * (k : Int) = ((t * k : Nat) : Int) := (Int.natCast_mul t k).symm
  rw [h4]
  generalize t * k = q at *
  unfold wrap64
  omega
theorem wrap_add {s p : Nat} (h1 : s ≤ 40) (h2 : p ≤ 32000) : wrap64 ((s : Int) + (p : Int)) = ((s + p : Nat) : Int) := by unfold wrap64; omega
theorem prod_le {t k : Nat} (h1 : t ≤ 800) (h2 : k ≤ 40) : t * k ≤ 32000 := Nat.mul_le_mul h1 h2

set_option maxHeartbeats 8000000 in
set_option maxRecDepth 10000 in
theorem Few13.succ {m nn L g Bm d : Nat} {zs : List Nat} (hm : m ≤ 400) (hL : 1 ≤ L) (hL2 : L ≤ 40) (hn1 : 1 ≤ nn) (hn8 : nn ≤ 8) (ih : Few13 m nn L g Bm zs d) : Few13 m nn L g Bm zs (d + 1) := by
  rintro w vs is ⟨a, u, x⟩ D S hrep hmd hbm hv
  obtain ⟨R, hR⟩ : ∃ R : Nat, valT zs L (d + 1) D (a, u, x) = R := ⟨_, rfl⟩
  obtain ⟨D2, hD2⟩ : ∃ D2, (D || decide (u ++ x.flatMap (flat d)).Nodup) = D2 := ⟨_, rfl⟩
  have hR2 : need D2 L a (u.map (cost zs L) ++ x.map (valT zs L d D2)) = R := by rw [← hD2]; exact hR
  have hdup := fun W (h : Rep S m (d + 1) W vs is (a, u, x)) => twice26 nn m (d + 1) hn1 hn8 (by omega) (a, u, x) vs is S W h (fun v h' => by have := hv v h'; omega)
  have hrep0 := hrep
  obtain ⟨pu, cu, px, cx, rfl, rfl, l1, l2, hu, hx⟩ := hrep
  simp only at l1 l2 hu hx ⊢
  rw [hR]
  obtain ⟨nu, hnu⟩ : ∃ k, u.length = k := ⟨_, rfl⟩
  obtain ⟨nx, hnx⟩ : ∃ k, x.length = k := ⟨_, rfl⟩
  have HH : Hid (IntRow S w pu u ∧ SetRow S m d w px x ∧ u.length = nu ∧ x.length = nx ∧ MdRow w g nn zs ∧ (∀ v ∈ u ++ x.flatMap (flat d), 0 ≤ v ∧ v < nn) ∧ w.cell? ⟨Bm, 0, none⟩ = some (.slice (some ⟨g, 0, none⟩) nn nn) ∧ Few13 m nn L g Bm zs d ∧ need D2 L a (u.map (cost zs L) ++ x.map (valT zs L d D2)) = R) := ⟨hu, hx, hnu, hnx, hmd, hv, hbm, ih, hR2⟩
  have HD : Hid (∀ W, Rep S m (d + 1) W (.slice pu u.length cu) (.slice px x.length cx) (a, u, x) → Calls Yba.prog 26 #[.agg #[.int .u64 (a : Nat), .slice pu u.length cu, .slice px x.length cx], .int .i64 (nn : Int)] W fun e w' => e = .returned (.bool (!decide (u ++ x.flatMap (flat d)).Nodup)) ∧ Below W.heap.size W w') := hdup
  have HRp : Hid (Rep S m (d + 1) w (.slice pu u.length cu) (.slice px x.length cx) (a, u, x)) := hrep0
  show Calls Yba.prog 13 #[.agg #[.int .u64 (a : Nat), .slice pu u.length cu, .slice px x.length cx], .func (.func 10) #[] #[.pointer (some ⟨Bm, 0, none⟩)], .func (.func 12) #[] #[.pointer (some ⟨Bm, 0, none⟩)], .int .i64 (nn : Int), .int .i64 (L : Int), .bool D] w _
  rw [hnu] at l1 HD HRp ⊢
  rw [hnx] at l2 HD HRp ⊢
  clear hu hx hnu hnx hmd hv hbm ih hR2 hR hdup hrep0
  obtain ⟨R3, hR3⟩ : ∃ R3 : Ending → World → Prop, (fun e w' => e = .returned (.int .i64 (R : Int)) ∧ Below w.heap.size w w') = R3 := ⟨_, rfl⟩
  have HE : Hid (∀ w', Below w.heap.size w w' → R3 (.returned (.int .i64 (R : Int))) w') := fun w' h => by rw [← hR3]; exact ⟨rfl, h⟩
  rw [hR3]
  clear hR3
  obtain ⟨Q, hQ⟩ : ∃ Q, w.heap.size = Q := ⟨_, rfl⟩
  obtain ⟨W1, hW1⟩ : ∃ W', (w.alloc (.cells #[.int .u64 (a : Nat), .slice pu nu cu, .slice px nx cx] 30)).alloc (.cells #[.int .i64 0, .int .i64 0, .int .i64 0, .int .i64 0, .int .i64 0, .int .i64 0, .int .i64 0, .int .i64 0, .int .i64 0, .int .i64 0, .int .i64 0, .int .i64 0, .int .i64 0, .int .i64 0, .int .i64 0, .int .i64 0] 51) = W' := ⟨_, rfl⟩
  have hb1 : Below w.heap.size w W1 := hW1 ▸ ((Below.refl _ w).alloc (Nat.le_refl _) _).alloc (by simp) _
  have hx1 : BoxAt W1 Q (.int .u64 (a : Nat)) (.slice pu nu cu) (.slice px nx cx) := by
    rw [← hW1, ← hQ]
    exact (BoxAt.new _ _ _ _).fr (Below.toFr ((Below.refl _ _).alloc (Nat.le_refl _) _)) (fun e => e)
  have hs1 : W1.heap.size = Q + 2 := by rw [← hW1, ← hQ]; simp
  have hs0 : (w.alloc (.cells #[.int .u64 (a : Nat), .slice pu nu cu, .slice px nx cx] 30)).heap.size = Q + 1 := by rw [← hQ]; simp
  by_cases hs : L < 16
  case' pos =>
    obtain ⟨cc, gc, W2, mk, hc2, hgc, hb2⟩ := arm_small L hs w _ W1 hW1 Q hs0
  case' neg =>
    obtain ⟨cc, gc, W2, mk, hc2, hgc, hb2⟩ := arm_big L hL2 W1 Q hs1
  all_goals
    have HB2 : Hid (Below w.heap.size w W2 ∧ BoxAt W2 Q (.int .u64 (a : Nat)) (.slice pu nu cu) (.slice px nx cx) ∧ Q + 1 ≤ W2.heap.size ∧ w.heap.size = Q ∧ CRow W2 gc L []) := ⟨hb1.trans (hb2.mono hb1.size), hx1.fr (Below.toFr hb2) (fun e => e), by have := hb2.size; omega, hQ, hc2⟩
    have z1 := HB2.out.2.1.c1
    clear hc2 hb2 hs0 hx1 hb1
    go_enter Yba.func13, Yba.ntmps13
    go_wp2
    clear hs1 hW1 mk z1 hs
    generalize (decide ((L : Int) < 16)) = bs
    go_loopw [36] (fun i wr => ∃ k : Nat, i = .int .i64 k ∧ k ≤ nu ∧ CRow wr gc L ((u.take k).map (cost zs L)) ∧ Below (Q + 1) W2 wr) (fun i _ => nu - (intOf i).toNat)
    case atStart => exact ⟨0, rfl, Nat.zero_le _, HB2.out.2.2.2.2, Below.refl _ _⟩
    case round =>
      obtain ⟨k, rfl, hk, hN, hB⟩ := hrel
      have hwb : Below w.heap.size w wr := HB2.out.1.trans (hB.mono (by have := HB2.out.2.2.2.1; omega))
      have HR : Hid (CRow wr gc L ((u.take k).map (cost zs L)) ∧ Below (Q + 1) W2 wr ∧ Below w.heap.size w wr) := ⟨hN, hB, hwb⟩
      clear hN hB
      by_cases hlt : k < nu
      · have hlu : k < u.length := by have := HH.out.2.2.1; omega
        rcases HH.out.1 with h1 | ⟨b, e, _, hc⟩
        · rw [h1] at hlu; simp at hlu
        · subst e
          have hcw : wr.cell? ⟨b, k, none⟩ = some (.int .i64 u[k]) := cell_bl hwb (hc k hlu)
          clear hc
          have hrange := HH.out.2.2.2.2.2.1 u[k] (List.mem_append_left _ (List.getElem_mem _))
          have hbm : wr.cell? ⟨Bm, 0, none⟩ = some (.slice (some ⟨g, 0, none⟩) nn nn) := cell_bl hwb HH.out.2.2.2.2.2.2.1
          have h10 := present10 g nn Bm zs u[k] wr (HH.out.2.2.2.2.1.below hwb) hbm hrange.1 hrange.2
          have h12 := avail12 g nn Bm zs u[k] wr (HH.out.2.2.2.2.1.below hwb) hbm hrange.1 hrange.2
          have hcost : cost zs L u[k] = if zs.getD u[k].toNat 0 = 0 then 0 else if zs.getD u[k].toNat 0 = 1 then 1 else L := rfl
          generalize zs.getD u[k].toNat 0 = z at h10 h12 hcost
          clear hwb hbm hrange
          obtain ⟨cs, hcs⟩ : ∃ cs, (u.take k).map (cost zs L) = cs := ⟨_, rfl⟩
          have hcl : cs.length = k := by rw [← hcs]; simp; omega
          have HT2 : Hid ((u.take (k + 1)).map (cost zs L) = cs ++ [cost zs L u[k]]) := by
            unfold Hid
            rw [List.take_succ_eq_append_getElem hlu, List.map_append, hcs]
            rfl
          rw [hcs] at HR
          clear hcs
          generalize u[k] = v at *
          have hstep : ∀ j, cost zs L v = j → j ≤ L → ∃ n : Nat, n ≤ k ∧ wr.cell? ⟨gc, j, none⟩ = some (.int .i64 (n : Int)) ∧ wr.frozen? ⟨gc, j, none⟩ = false ∧ CRow (wr.setCell ⟨gc, j, none⟩ (.int .i64 ((n : Int) + 1))) gc L ((u.take (k + 1)).map (cost zs L)) ∧ Below (Q + 1) W2 (wr.setCell ⟨gc, j, none⟩ (.int .i64 ((n : Int) + 1))) := by
            intro j hj hjL
            obtain ⟨c1, c2⟩ := HR.out.1.get j hjL
            refine ⟨cs.count j, by rw [← hcl]; exact List.count_le_length, c1, c2, ?_, HR.out.2.1.setCell hgc _⟩
            rw [HT2.out, hj]
            exact HR.out.1.inc j hjL _ rfl
          clear hcl HT2
          have hz : z = 0 ∨ z = 1 ∨ (z ≠ 0 ∧ z ≠ 1) := by omega
          rcases hz with ez | ez | ⟨ez, ez2⟩
          · obtain ⟨n, hn, y1, y2, C2, B2⟩ := hstep 0 (by rw [hcost, if_pos ez]) (Nat.zero_le _)
            have HN : Hid _ := And.intro C2 B2
            subst ez
            clear hcost hstep C2 B2
            go_wp2_with (go_at_call 10; refine h10.mono ?_; rintro e w' ⟨rfl, e'⟩; obtain rfl := e'.symm)
            go_roundw
            case rel => exact ⟨k + 1, by go_num, by omega, HN.out.1, HN.out.2⟩
            case measure => simp [intOf]; omega
          · obtain ⟨n, hn, y1, y2, C2, B2⟩ := hstep 1 (by rw [hcost, if_neg (by omega), if_pos ez]) hL
            have HN : Hid _ := And.intro C2 B2
            subst ez
            clear hcost hstep C2 B2
            go_wp2_with (first
              | (go_at_call 10; refine h10.mono ?_; rintro e w' ⟨rfl, e'⟩; obtain rfl := e'.symm)
              | (go_at_call 12; refine h12.mono ?_; rintro e w' ⟨rfl, e'⟩; obtain rfl := e'.symm))
            go_roundw
            case rel => exact ⟨k + 1, by go_num, by omega, HN.out.1, HN.out.2⟩
            case measure => simp [intOf]; omega
          · obtain ⟨n, hn, y1, y2, C2, B2⟩ := hstep L (by rw [hcost, if_neg ez, if_neg ez2]) (Nat.le_refl _)
            have HN : Hid _ := And.intro C2 B2
            rw [decide_eq_false ez] at h10
            rw [decide_eq_false ez2] at h12
            clear hcost hstep C2 B2 ez ez2
            go_wp2_with (first
              | (go_at_call 10; refine h10.mono ?_; rintro e w' ⟨rfl, e'⟩; obtain rfl := e'.symm)
              | (go_at_call 12; refine h12.mono ?_; rintro e w' ⟨rfl, e'⟩; obtain rfl := e'.symm))
            go_roundw
            case rel => exact ⟨k + 1, by go_num, by omega, HN.out.1, HN.out.2⟩
            case measure => simp [intOf]; omega
      · obtain rfl : k = nu := by omega
        clear hwb
        have HU : Hid (CRow wr gc L (u.map (cost zs L))) := by
          unfold Hid
          have := HR.out.1
          rwa [List.take_of_length_le (by have := HH.out.2.2.1; omega)] at this
        obtain ⟨wo, hwo⟩ : ∃ wo : World, wo = wr := ⟨_, rfl⟩
        rw [← hwo] at HR HU ⊢
        clear hwo
        have hbx : BoxAt wo Q (.int .u64 (a : Nat)) (.slice pu k cu) (.slice px nx cx) := by
          unfold BoxAt
          rw [HR.out.2.1.block Q (by omega)]
          exact HB2.out.2.1
        have HC := HD.out wo (HRp.out.below HR.out.2.2)
        have y0 := hbx.c0
        have y1 := hbx.c1
        have y2 := hbx.c2
        have hdd : D = false → decide (u ++ x.flatMap (flat d)).Nodup = D2 := fun h => by rw [← hD2, h]; rfl
        have hdt : D = true → D2 = true := fun h => by rw [← hD2, h]; rfl
        clear hD2
        cases D
        case' true =>
          have HT : Hid (D2 = true) := hdt rfl
          clear hdd hdt HC
          obtain ⟨W3, hW3, hb3⟩ : ∃ W3, wo = W3 ∧ Below wo.heap.size wo W3 := ⟨wo, rfl, Below.refl _ _⟩
          have HB3 : Hid (CRow W3 gc L (u.map (cost zs L)) ∧ Below (Q + 1) W2 W3 ∧ BoxAt W3 Q (.int .u64 (a : Nat)) (.slice pu k cu) (.slice px nx cx)) := ⟨HU.out.below hb3, HR.out.2.1.trans (hb3.mono (by have := HR.out.2.1.size; have := HB2.out.2.2.1; omega)), hbx.fr (Below.toFr hb3) (fun e => e)⟩
          have z2 := HB3.out.2.2.c2
          clear hbx hb3 HU
          go_wp2
        case' false =>
          have HT : Hid True := trivial
          have hd := hdd rfl
          clear hdd hdt
          go_wp2_with (go_at_call 26; fail)
          refine HC.mono ?_
          rw [hd]
          rintro e W3 ⟨rfl, hb3⟩
          have HB3 : Hid (CRow W3 gc L (u.map (cost zs L)) ∧ Below (Q + 1) W2 W3 ∧ BoxAt W3 Q (.int .u64 (a : Nat)) (.slice pu k cu) (.slice px nx cx)) := ⟨HU.out.below hb3, HR.out.2.1.trans (hb3.mono (by have := HR.out.2.1.size; have := HB2.out.2.2.1; omega)), hbx.fr (Below.toFr hb3) (fun e => e)⟩
          have z2 := HB3.out.2.2.c2
          clear hbx hb3 HU hd
          go_wp2
        all_goals
          clear y0 y1 y2 z2 HD HRp HR
          go_loopw [75] (fun i wr => ∃ k2 : Nat, i = .int .i64 k2 ∧ k2 ≤ nx ∧ CRow wr gc L (u.map (cost zs L) ++ (x.take k2).map (valT zs L d D2)) ∧ Below (Q + 1) W2 wr) (fun i _ => nx - (intOf i).toNat)
          case atStart => exact ⟨0, rfl, Nat.zero_le _, by simpa using HB3.out.1, HB3.out.2.1⟩
          case round =>
            obtain ⟨k2, rfl, hk2, hN, hB⟩ := hrel
            have hwb : Below w.heap.size w wr := HB2.out.1.trans (hB.mono (by have := HB2.out.2.2.2.1; omega))
            have HS : Hid (CRow wr gc L (u.map (cost zs L) ++ (x.take k2).map (valT zs L d D2)) ∧ Below (Q + 1) W2 wr ∧ Below w.heap.size w wr) := ⟨hN, hB, hwb⟩
            clear hN hB
            by_cases hlt2 : k2 < nx
            · have hlx : k2 < x.length := by have := HH.out.2.2.2.1; omega
              rcases HH.out.2.1.below hwb with h1 | ⟨b, e, _, hc⟩
              · rw [h1] at hlx; simp at hlx
              · subst e
                obtain ⟨vs, is, a1, a2, a3, hr1⟩ := hc k2 hlx
                clear hc
                obtain ⟨r1, r2, r3, r4, r5, r6, rfl, rfl⟩ := Rep.slices d _ _ _ hr1
                have HT2 : Hid ((x.take (k2 + 1)).map (valT zs L d D2) = (x.take k2).map (valT zs L d D2) ++ [valT zs L d D2 x[k2]]) := by
                  unfold Hid
                  rw [List.take_succ_eq_append_getElem hlx, List.map_append]
                  rfl
                have hal : ∀ n1 : Nat, Below wr.heap.size wr (wr.alloc (.cells #[.int .u64 (n1 : Int), .slice r1 r2 r3, .slice r4 r5 r6] 30)) := fun n1 => (Below.refl _ wr).alloc (Nat.le_refl _) _
                have hvt : ∀ v ∈ flat d x[k2], 0 ≤ v ∧ v < nn := fun v hv => HH.out.2.2.2.2.2.1 v (List.mem_append_right _ (List.mem_flatMap.2 ⟨_, List.getElem_mem _, hv⟩))
                obtain ⟨n1, hn1⟩ : ∃ n, thr d x[k2] = n := ⟨_, rfl⟩
                obtain ⟨val, hval⟩ : ∃ v, valT zs L d D2 x[k2] = v := ⟨_, rfl⟩
                have hvL : val ≤ L := by rw [← hval]; exact valT_le zs hL d D2 _
                have hbm : (wr.alloc (.cells #[.int .u64 (n1 : Int), .slice r1 r2 r3, .slice r4 r5 r6] 30)).cell? ⟨Bm, 0, none⟩ = some (.slice (some ⟨g, 0, none⟩) nn nn) := cell_bl (hal n1) (cell_bl hwb HH.out.2.2.2.2.2.2.1)
                have hcon := HH.out.2.2.2.2.2.2.2.1 _ _ _ x[k2] D2 S (hr1.below (hal n1)) ((HH.out.2.2.2.2.1.below hwb).below (hal n1)) hbm hvt
                rw [hn1, hval] at hcon
                rw [hn1] at a1
                rw [hval] at HT2
                clear hr1 hvt hn1 hval hwb hbm
                first
                  | (rw [show D2 = true from HT.out] at hcon)
                  | skip
                go_wp2_with (go_at_call 13; fail)
                refine hcon.mono ?_
                clear hcon a1 a2 a3
                rintro e w3 ⟨rfl, hb3⟩
                have hbw : Below wr.heap.size wr w3 := (hal n1).trans (hb3.mono (hal n1).size)
                obtain ⟨cs, hcs⟩ : ∃ cs, u.map (cost zs L) ++ (x.take k2).map (valT zs L d D2) = cs := ⟨_, rfl⟩
                have hcl : cs.length = k + k2 := by rw [← hcs]; have := HH.out.2.2.1; simp; omega
                have HC3 : CRow w3 gc L cs := by rw [← hcs]; exact HS.out.1.below hbw
                obtain ⟨y1, y2⟩ := HC3.get val hvL
                obtain ⟨n, hn⟩ : ∃ n, cs.count val = n := ⟨_, rfl⟩
                have hn8 : n ≤ 800 := by rw [← hn]; exact Nat.le_trans List.count_le_length (by omega)
                have HN : Hid (CRow (w3.setCell ⟨gc, val, none⟩ (.int .i64 ((n : Int) + 1))) gc L (u.map (cost zs L) ++ (x.take (k2 + 1)).map (valT zs L d D2)) ∧ Below (Q + 1) W2 (w3.setCell ⟨gc, val, none⟩ (.int .i64 ((n : Int) + 1)))) := by
                  refine ⟨?_, (HS.out.2.1.trans (hbw.mono ?_)).setCell hgc _⟩
                  · rw [HT2.out, ← List.append_assoc, hcs]
                    exact HC3.inc val hvL _ (by rw [hn])
                  · have := HS.out.2.1.size; have := HB2.out.2.2.1; omega
                rw [hn] at y1
                clear hn hcl HC3 hcs hb3 hbw hal HS
                go_wp2
                go_roundw
                case rel => exact ⟨k2 + 1, by go_num, by omega, HN.out.1, HN.out.2⟩
                case measure => simp [intOf]; omega
            · obtain rfl : k2 = nx := by omega
              clear hwb
              obtain ⟨cs, hcs⟩ : ∃ cs, u.map (cost zs L) ++ x.map (valT zs L d D2) = cs := ⟨_, rfl⟩
              have hcl : ∀ c ∈ cs, c ≤ L := by
                intro c hc
                rw [← hcs] at hc
                rcases List.mem_append.1 hc with h | h
                · obtain ⟨v, _, rfl⟩ := List.mem_map.1 h; exact cost_le zs hL v
                · obtain ⟨y, _, rfl⟩ := List.mem_map.1 h; exact valT_le zs hL d _ y
              have hneed : need D2 L a cs = R := by rw [← hcs]; exact HH.out.2.2.2.2.2.2.2.2
              have hln : cs.length = k + k2 := by rw [← hcs]; have := HH.out.2.2.1; have := HH.out.2.2.2.1; simp; omega
              have hCR : CRow wr gc L cs := by
                have := HS.out.1
                rwa [List.take_of_length_le (by have := HH.out.2.2.2.1; omega), hcs] at this
              have hbw : Below (Q + 1) W2 wr := HS.out.2.1
              have hbx : BoxAt wr Q (.int .u64 (a : Nat)) (.slice pu k cu) (.slice px k2 cx) := by
                unfold BoxAt
                rw [hbw.block Q (by omega)]
                exact HB2.out.2.1
              have z0 := hbx.c0
              have z1 := hbx.c1
              have z2 := hbx.c2
              have HF : Hid (∀ w', Below (Q + 1) W2 w' → R3 (.returned (.int .i64 (R : Int))) w') := fun w' h => HE.out w' (HB2.out.1.trans (h.mono (by have := HB2.out.2.2.2.1; omega)))
              have HNR : Hid (CRow wr gc L cs ∧ Below (Q + 1) W2 wr) := ⟨hCR, hbw⟩
              have hnk : k + k2 ≤ 800 := by omega
              clear hbx HS HH hcs HE HB2 HB3 hCR hbw hlt hlt2
              obtain ⟨wo, hwo⟩ : ∃ wo : World, wo = wr := ⟨_, rfl⟩
              rw [← hwo] at HNR z0 z1 z2 ⊢
              clear hwo
              by_cases h1 : k + k2 < a
              · have hR : R = L := by rw [← hneed]; unfold need; rw [if_pos (by rw [hln]; exact h1)]
                rw [hR] at HF
                clear hneed hcl hR
                go_wp2
                exact HF.out _ HNR.out.2
              · by_cases h2 : a = 0
                · have hR : R = 0 := by rw [← hneed]; unfold need; rw [if_neg (by rw [hln]; exact h1), if_pos h2]
                  rw [hR] at HF
                  subst h2
                  clear hneed hcl hR
                  go_wp2
                  exact HF.out _ HNR.out.2
                · have HR : Hid (byCount D2 L (fun j => cs.count j) (L + 1 - 0) 0 a 0 = R) := need_count hneed hcl (by rw [hln]; exact h1) h2
                  have ha8 : a ≤ 800 := by omega
                  have ha1 : 1 ≤ a := by omega
                  have HLN : Hid (cs.length ≤ 800) := show cs.length ≤ 800 by omega
                  clear hneed hcl
                  go_wp2
                  clear z0 z1 z2 h1 h2 hnk hln
                  go_loopw [19, 20, 114] (fun x y i wr => ∃ kk nd s : Nat, x = .int .i64 nd ∧ y = .int .i64 s ∧ i = .int .i64 kk ∧ kk ≤ L + 1 ∧ 1 ≤ nd ∧ nd ≤ 800 ∧ s ≤ L ∧ byCount D2 L (fun j => cs.count j) (L + 1 - kk) kk nd s = R ∧ CRow wr gc L cs ∧ Below (Q + 1) W2 wr) (fun _ _ i _ => L + 1 - (intOf i).toNat)
                  case atStart => exact ⟨0, a, 0, rfl, rfl, rfl, Nat.zero_le _, ha1, ha8, Nat.zero_le _, HR.out, HNR.out.1, HNR.out.2⟩
                  case round =>
                    obtain ⟨kk, nd, s, rfl, rfl, rfl, hk3, hnd1, hnd, hs, hby, hC, hB⟩ := hrel
                    have HN : Hid (CRow wr gc L cs ∧ Below (Q + 1) W2 wr) := ⟨hC, hB⟩
                    clear ha1 ha8 HR l1 l2 hk hk2 HNR
                    try clear HC
                    by_cases hlt3 : kk ≤ L
                    · obtain ⟨y1, y2⟩ := hC.get kk hlt3
                      obtain ⟨v, hv⟩ : ∃ v, cs.count kk = v := ⟨_, rfl⟩
                      have hv8 : v ≤ 800 := by rw [← hv]; exact Nat.le_trans List.count_le_length HLN.out
                      have hst := byCount_step hby hlt3 hv
                      rw [hv] at y1
                      have hs4 : s ≤ 40 := Nat.le_trans hs hL2
                      have hk4 : kk ≤ 40 := Nat.le_trans hlt3 hL2
                      have HST : Hid _ := hst
                      have HSL : Hid (s ≤ L ∧ kk ≤ L) := ⟨hs, hlt3⟩
                      clear hv hby hC hB hst hk3
                      by_cases hv0 : v = 0
                      · subst hv0
                        have hby2 := HST.out.2 (by omega)
                        rw [share_zero, Nat.sub_zero] at hby2
                        have HBY : Hid _ := hby2
                        clear hby2 HST
                        go_wp2
                        go_roundw
                        case rel => exact ⟨kk + 1, nd, s, by go_num, by go_num, by go_num, by omega, hnd1, hnd, hs, HBY.out, HN.out.1, HN.out.2⟩
                        case measure => simp [intOf]; omega
                      · by_cases hge : nd ≤ v
                        · have hsh := HST.out.1 hge
                          clear HST
                          have hnd0 : nd ≠ 0 := by omega
                          have hge2 : nd < v ∨ nd = v := by omega
                          cases D2
                          · first
                              | (exact absurd (show false = true from HT.out) (by simp))
                              | (rw [share_false hnd0] at hsh
                                 rw [← hsh] at HF
                                 clear hsh
                                 rcases hge2 with hg2 | hg2
                                 · clear hge
                                   go_wp2
                                   exact HF.out _ HN.out.2
                                 · subst hg2
                                   clear hge
                                   go_wp2
                                   exact HF.out _ HN.out.2)
                          · rw [share_true hnd0] at hsh
                            have hp := wrap_prod hnd hk4
                            have hpl := prod_le hnd hk4
                            generalize nd * kk = pr at hp hpl hsh
                            by_cases hgt : L < s + pr
                            · rw [Nat.min_eq_right (Nat.le_of_lt hgt)] at hsh
                              rw [← hsh] at HF
                              clear hsh
                              rcases hge2 with hg2 | hg2
                              · clear hge
                                go_wp2
                                exact HF.out _ HN.out.2
                              · subst hg2
                                clear hge
                                go_wp2
                                exact HF.out _ HN.out.2
                            · rw [Nat.min_eq_left (by omega)] at hsh
                              rw [← hsh, Int.natCast_add] at HF
                              clear hsh
                              rcases hge2 with hg2 | hg2
                              · clear hge
                                go_wp2
                                exact HF.out _ HN.out.2
                              · subst hg2
                                clear hge
                                go_wp2
                                exact HF.out _ HN.out.2
                        · have hvn : v < nd := by omega
                          have hby2 := HST.out.2 hvn
                          clear HST hge
                          cases D2
                          · first
                              | (exact absurd (show false = true from HT.out) (by simp))
                              | (rw [share_false hv0] at hby2
                                 have HBY : Hid _ := hby2
                                 clear hby2
                                 go_wp2
                                 go_roundw
                                 case rel => exact ⟨kk + 1, nd - v, kk, by go_num, by go_num, by go_num, by omega, by omega, by omega, HSL.out.2, HBY.out, HN.out.1, HN.out.2⟩
                                 case measure => simp [intOf]; omega)
                          · rw [share_true hv0] at hby2
                            have hp := wrap_prod hv8 hk4
                            have hpl := prod_le hv8 hk4
                            generalize v * kk = pr at hp hpl hby2
                            by_cases hgt : L < s + pr
                            · rw [Nat.min_eq_right (Nat.le_of_lt hgt)] at hby2
                              have HBY : Hid _ := hby2
                              clear hby2
                              go_wp2
                              go_roundw
                              case rel => exact ⟨kk + 1, nd - v, L, by go_num, by go_num, by go_num, by omega, by omega, by omega, Nat.le_refl _, HBY.out, HN.out.1, HN.out.2⟩
                              case measure => simp [intOf]; omega
                            · rw [Nat.min_eq_left (by omega)] at hby2
                              have HBY : Hid _ := hby2
                              clear hby2
                              go_wp2
                              go_roundw
                              case rel => exact ⟨kk + 1, nd - v, s + pr, by go_num, by go_num, by go_num, by omega, by omega, by omega, by omega, HBY.out, HN.out.1, HN.out.2⟩
                              case measure => simp [intOf]; omega
                    · obtain rfl : kk = L + 1 := by omega
                      rw [Nat.sub_self] at hby
                      have hR : s = R := hby
                      rw [← hR] at HF
                      clear hby hR hC hB hk3
                      go_wp2
                      exact HF.out _ HN.out.2
theorem few13 {m nn L g Bm : Nat} {zs : List Nat} (hm : m ≤ 400) (hL : 1 ≤ L) (hL2 : L ≤ 40) (hn1 : 1 ≤ nn) (hn8 : nn ≤ 8) : (d : Nat) → Few13 m nn L g Bm zs d
  | 0 => fun _ _ _ t => nomatch t
  | d + 1 => Few13.succ hm hL hL2 hn1 hn8 (few13 hm hL hL2 hn1 hn8 d)
end Go.Proofs.Ybulkbciw
