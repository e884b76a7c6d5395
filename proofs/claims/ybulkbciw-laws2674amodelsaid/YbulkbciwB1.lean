import Derived.Test.YbulkbciwA9
import Derived.WalkSmall
namespace Go.Proofs.Ybulkbciw
open Go.RowKit
set_option linter.unusedSimpArgs false
set_option linter.unusedVariables false

theorem Own.set {w : World} {b e : Nat} {g n c : Nat} {xs : List Value} (h : Own w b e 1 (some ⟨g, 0, none⟩) n c xs) (i : Nat) (v : Value) : Own (w.setCell ⟨g, i, none⟩ v) b e 1 (some ⟨g, 0, none⟩) n c (xs.set i v) := by
  obtain ⟨h1, h2⟩ := h
  refine ⟨by simpa using h1, ?_⟩
  rcases h2 with ⟨e2, _⟩ | ⟨g', cap, cur, e2, hb, hg, h3, h4, h5, h6⟩
  · cases e2
  · cases e2
    refine .inr ⟨g, c, cur.setIfInBounds i v, rfl, hb, ?_, h3, h4, by simpa using h5, ?_⟩
    · rw [setCell_eq_setRow w g i _ e (0, 0) _ hg, setRow_heap w g _ _ e _ hg]
    · rw [← h6, Array.toList_setIfInBounds, List.take_set]

/-- the costs so far -/
def NRow (w : World) (b : Nat) (p : Option Addr) (n c : Nat) (ns : List Nat) : Prop := Own w b 3 1 p n c ((ns.map (fun k : Nat => (k : Int))).map (Value.int .i64)) ∧ ns.length = n
theorem NRow.below {w w' : World} {b : Nat} {p : Option Addr} {n c : Nat} {ns : List Nat} (h : NRow w b p n c ns) (hb : Below w.heap.size w w') : NRow w' b p n c ns := ⟨h.1.fr (Below.toFr hb) (fun _ _ _ _ e => e), h.2⟩
theorem NRow.app {w : World} {b : Nat} {p : Option Addr} {n c : Nat} {ns : List Nat} (h : NRow w b p n c ns) (hb : b ≤ w.heap.size) (hn : n ≤ 1000) (k : Nat) (x : Int) (hx : x = k) :
    ∃ g' c' w', (Builtin.append_ #[27, 27] 27 #[.slice p n c, .slice (some ⟨w.heap.size, 0, none⟩) 1 1]).run Yba.prog (w.alloc (.cells #[.int .i64 x] 3)) = .ok (.slice (some ⟨g', 0, none⟩) (n + 1) c') w' ∧ NRow w' b (some ⟨g', 0, none⟩) (n + 1) c' (ns ++ [k]) ∧ Below b w w' := by
  subst hx
  obtain ⟨g', c', w', r, o, f, _, _⟩ := app_int w b p n c _ h.1 hb (by omega) (k : Int)
  refine ⟨g', c', w', r, ⟨by simpa using o, by simp [h.2]⟩, f.toBelow hb (fun j hj e => ?_)⟩
  rcases h.1.at with ⟨e2, _⟩ | ⟨g, e2, hg, _⟩
  · rw [e2] at e; cases e
  · rw [e2] at e; cases e; omega
theorem NRow.get {w : World} {b : Nat} {p : Option Addr} {n c : Nat} {ns : List Nat} (h : NRow w b p n c ns) (i : Nat) (hi : i < n) : ∃ g, p = some ⟨g, 0, none⟩ ∧ b ≤ g ∧ w.cell? ⟨g, i, none⟩ = some (.int .i64 ((ns.getD i 0 : Nat) : Int)) ∧ w.frozen? ⟨g, i, none⟩ = false := by
  have hl := h.2
  rcases h.1.at with ⟨_, h0, _⟩ | ⟨g, e, hb, _, hc, hf⟩
  · omega
  · refine ⟨g, e, hb, hc i _ ?_, hf i⟩
    rw [List.getElem?_map, List.getElem?_map, List.getElem?_eq_getElem (show i < ns.length by omega), List.getD_eq_getElem?_getD, List.getElem?_eq_getElem (show i < ns.length by omega)]
    rfl
theorem NRow.set {w : World} {b g n c : Nat} {ns : List Nat} (h : NRow w b (some ⟨g, 0, none⟩) n c ns) (i k : Nat) : NRow (w.setCell ⟨g, i, none⟩ (.int .i64 (k : Int))) b (some ⟨g, 0, none⟩) n c (ns.set i k) :=
  ⟨by have := h.1.set i (.int .i64 (k : Int)); simpa [List.map_set] using this, by simp [h.2]⟩
theorem NRow.nil (w : World) (b : Nat) : NRow w b none 0 0 [] := ⟨Own.nil _ _ _ _, rfl⟩

theorem NRow.drewN {w : World} {b : Nat} {p : Option Addr} {n c : Nat} {ns : List Nat} (h : NRow w b p n c ns) (k : Nat) : NRow (w.drewN k) b p n c ns := h
theorem pick_take_succ (L : Nat) (ns : List Nat) (i : Nat) (hi : i < ns.length) : pick true L (ns.take (i + 1)) 0 = min (pick true L (ns.take i) 0 + ns.getD i 0) L := by
  rw [List.take_succ_eq_append_getElem hi, pick_append, List.getD_eq_getElem?_getD, List.getElem?_eq_getElem hi]
  rfl
theorem wrap_sum {L s v : Nat} (hL : L ≤ 40) (h1 : s ≤ L) (h2 : v ≤ L) : wrap64 ((s : Int) + (v : Int)) = ((s + v : Nat) : Int) := by unfold wrap64; omega
theorem min_hi {L s v x : Nat} (h : x = min (s + v) L) (h2 : L < s + v) : x = L := by omega
theorem min_lo {L s v x : Nat} (h : x = min (s + v) L) (h2 : ¬ L < s + v) : x = s + v := by omega
theorem swap_row {w : World} {b g M c j nq v v2 : Nat} {W2 : World} {ms cs : List Nat} {k : Nat} (hN : NRow w b (some ⟨g, 0, none⟩) M c ms) (hB : Below b W2 w) (hg : b ≤ g) (hp : ms.Perm cs) (hsb : SortedBut ms k (j + 1)) (hj : j + 1 ≤ k) (hk : k < M) (hv : ms.getD j 0 = v) (hv2 : ms.getD (j + 1) 0 = v2) (hlt : v2 < v) (W3 : World) (hW3 : W3 = ((w.drewN nq).setCell ⟨g, j + 1, none⟩ (.int .i64 (v : Int))).setCell ⟨g, j, none⟩ (.int .i64 (v2 : Int))) :
    ∃ ms', NRow W3 b (some ⟨g, 0, none⟩) M c ms' ∧ Below b W2 W3 ∧ ms'.Perm cs ∧ SortedBut ms' k j := by
  subst hW3
  refine ⟨swapN ms j, ?_, ?_, ?_, ?_⟩
  · have := ((hN.drewN nq).set (j + 1) v).set j v2
    unfold swapN
    rw [hv, hv2]
    exact this
  · exact ((below_drewN hB nq).setCell hg _).setCell hg _
  · exact (swapN_perm ms j (by have := hN.2; omega)).trans hp
  · exact hsb.swap hj (by have := hN.2; omega) (by omega)

/-- what is said of the model at trees d deep -/
def Mod14 (m nn L g : Nat) (zs : List Nat) (d : Nat) : Prop := ∀ (w : World) (vs is : Value) (t : T d) (D : Bool) (S : Nat → Prop), Rep S m d w vs is t → MdRow w g nn zs → (∀ v ∈ flat d t, 0 ≤ v ∧ v < nn) → (flat d t).length ≤ 1000000000 →
  Calls Yba.prog 14 #[.agg #[.int .u64 (thr d t : Nat), vs, is], .slice (some ⟨g, 0, none⟩) nn nn, .int .i64 (L : Int), .bool D] w fun e w' => e = .returned (.int .i64 ((valT zs L d D t : Nat) : Int)) ∧ Below w.heap.size w w'

set_option maxHeartbeats 4000000 in
set_option maxRecDepth 10000 in
theorem Mod14.succ {m nn L g d : Nat} {zs : List Nat} (hm : m ≤ 400) (hL : 1 ≤ L) (hL2 : L ≤ 40) (ih : Mod14 m nn L g zs d) : Mod14 m nn L g zs (d + 1) := by
  rintro w vs is ⟨a, u, x⟩ D S hrep hmd hv hfl
  obtain ⟨R, hR⟩ : ∃ R : Nat, valT zs L (d + 1) D (a, u, x) = R := ⟨_, rfl⟩
  obtain ⟨D2, hD2⟩ : ∃ D2, (D || decide (u ++ x.flatMap (flat d)).Nodup) = D2 := ⟨_, rfl⟩
  have hR2 : need D2 L a (u.map (cost zs L) ++ x.map (valT zs L d D2)) = R := by rw [← hD2]; exact hR
  have hdup := fun W (h : Rep S m (d + 1) W vs is (a, u, x)) => dup27 (m := m) (d := d + 1) (by omega) W vs is (a, u, x) S h hfl
  have hrep0 := hrep
  obtain ⟨pu, cu, px, cx, rfl, rfl, l1, l2, hu, hx⟩ := hrep
  simp only at l1 l2 hu hx ⊢
  rw [hR]
  obtain ⟨nu, hnu⟩ : ∃ k, u.length = k := ⟨_, rfl⟩
  obtain ⟨nx, hnx⟩ : ∃ k, x.length = k := ⟨_, rfl⟩
  have HH : Hid (IntRow S w pu u ∧ SetRow S m d w px x ∧ u.length = nu ∧ x.length = nx ∧ MdRow w g nn zs ∧ (∀ v ∈ u ++ x.flatMap (flat d), 0 ≤ v ∧ v < nn) ∧ (u ++ x.flatMap (flat d)).length ≤ 1000000000 ∧ Mod14 m nn L g zs d ∧ need D2 L a (u.map (cost zs L) ++ x.map (valT zs L d D2)) = R) := ⟨hu, hx, hnu, hnx, hmd, hv, hfl, ih, hR2⟩
  have HD : Hid (∀ W, Rep S m (d + 1) W (.slice pu u.length cu) (.slice px x.length cx) (a, u, x) → Calls Yba.prog 27 #[.agg #[.int .u64 (a : Nat), .slice pu u.length cu, .slice px x.length cx]] W fun e w' => e = .returned (.bool (!decide (u ++ x.flatMap (flat d)).Nodup)) ∧ Below W.heap.size W w') := hdup
  have HRp : Hid (Rep S m (d + 1) w (.slice pu u.length cu) (.slice px x.length cx) (a, u, x)) := hrep0
  show Calls Yba.prog 14 #[.agg #[.int .u64 (a : Nat), .slice pu u.length cu, .slice px x.length cx], .slice (some ⟨g, 0, none⟩) nn nn, .int .i64 (L : Int), .bool D] w _
  rw [hnu] at l1 HD HRp ⊢
  rw [hnx] at l2 HD HRp ⊢
  clear hu hx hnu hnx hmd hv hfl ih hR2 hR hdup hrep0
  obtain ⟨Q, hQ⟩ : ∃ Q, w.heap.size = Q := ⟨_, rfl⟩
  obtain ⟨W1, hW1⟩ : ∃ W', w.alloc (.cells #[.int .u64 (a : Nat), .slice pu nu cu, .slice px nx cx] 30) = W' := ⟨_, rfl⟩
  have hb1 : Below w.heap.size w W1 := hW1 ▸ (Below.refl _ w).alloc (Nat.le_refl _) _
  have hx1 : BoxAt W1 Q (.int .u64 (a : Nat)) (.slice pu nu cu) (.slice px nx cx) := by rw [← hW1, ← hQ]; exact BoxAt.new _ _ _ _
  have hs1 : W1.heap.size = Q + 1 := by rw [← hW1, ← hQ]; simp
  have HC := HD.out W1 (HRp.out.below hb1)
  have y0 := hx1.c0
  have y1 := hx1.c1
  have y2 := hx1.c2
  obtain ⟨R3, hR3⟩ : ∃ R3 : Ending → World → Prop, (fun e w' => e = .returned (.int .i64 (R : Int)) ∧ Below w.heap.size w w') = R3 := ⟨_, rfl⟩
  have HE : Hid (∀ w', Below w.heap.size w w' → R3 (.returned (.int .i64 (R : Int))) w') := fun w' h => by rw [← hR3]; exact ⟨rfl, h⟩
  rw [hR3]
  clear hR3
  go_enter Yba.func14, Yba.ntmps14
  have hdd : D = false → decide (u ++ x.flatMap (flat d)).Nodup = D2 := fun h => by rw [← hD2, h]; rfl
  have hdt : D = true → D2 = true := fun h => by rw [← hD2, h]; rfl
  cases D
  case' true =>
    have HT : Hid (D2 = true) := hdt rfl
    clear hD2 hdd hdt HC
    obtain ⟨W2, hW2, hb2⟩ : ∃ W2, W1 = W2 ∧ Below W1.heap.size W1 W2 := ⟨W1, rfl, Below.refl _ _⟩
    have HB2 : Hid (Below w.heap.size w W2 ∧ BoxAt W2 Q (.int .u64 (a : Nat)) (.slice pu nu cu) (.slice px nx cx) ∧ Q + 1 ≤ W2.heap.size ∧ w.heap.size = Q) := ⟨hb1.trans (hb2.mono hb1.size), hx1.fr (Below.toFr hb2) (fun e => e), by have := hb2.size; omega, hQ⟩
    have z1 := HB2.out.2.1.c1
    go_wp2
  case' false =>
    have HT : Hid True := trivial
    have hd := hdd rfl
    clear hD2 hdd hdt
    go_wp2_with (go_at_call 27; fail)
    refine HC.mono ?_
    rw [hd]
    rintro e W2 ⟨rfl, hb2⟩
    have HB2 : Hid (Below w.heap.size w W2 ∧ BoxAt W2 Q (.int .u64 (a : Nat)) (.slice pu nu cu) (.slice px nx cx) ∧ Q + 1 ≤ W2.heap.size ∧ w.heap.size = Q) := ⟨hb1.trans (hb2.mono hb1.size), hx1.fr (Below.toFr hb2) (fun e => e), by have := hb2.size; omega, hQ⟩
    have z1 := HB2.out.2.1.c1
    go_wp2
  all_goals
    clear hb1 hb2 hx1 hs1 y0 y1 y2 hQ hW1 z1 HD HRp
    go_loopw [10, 31] (fun s i wr => ∃ (k : Nat) (p : Option Addr) (c : Nat), i = .int .i64 k ∧ k ≤ nu ∧ s = .slice p k c ∧ NRow wr (Q + 1) p k c ((u.take k).map (cost zs L)) ∧ Below (Q + 1) W2 wr) (fun _ i _ => nu - (intOf i).toNat)
    case atStart => exact ⟨0, none, 0, rfl, Nat.zero_le _, rfl, NRow.nil _ _, Below.refl _ _⟩
    case round =>
      obtain ⟨k, p, c, rfl, hk, rfl, hN, hB⟩ := hrel
      have hwb : Below w.heap.size w wr := HB2.out.1.trans (hB.mono (by have := HB2.out.2.2.2; omega))
      have HR : Hid (NRow wr (Q + 1) p k c ((u.take k).map (cost zs L)) ∧ Below (Q + 1) W2 wr ∧ Below w.heap.size w wr) := ⟨hN, hB, hwb⟩
      clear hN hB
      by_cases hlt : k < nu
      · have hlu : k < u.length := by have := HH.out.2.2.1; omega
        rcases HH.out.1 with h1 | ⟨b, e, _, hc⟩
        · rw [h1] at hlu; simp at hlu
        · subst e
          have hcw : wr.cell? ⟨b, k, none⟩ = some (.int .i64 u[k]) := cell_bl hwb (hc k hlu)
          clear hc
          have hrange := HH.out.2.2.2.2.2.1 u[k] (List.mem_append_left _ (List.getElem_mem _))
          have HT2 : Hid ((u.take (k + 1)).map (cost zs L) = (u.take k).map (cost zs L) ++ [cost zs L u[k]]) := by
            unfold Hid
            rw [List.take_succ_eq_append_getElem hlu, List.map_append]
            rfl
          have hmode := mode11 g nn zs u[k] wr (HH.out.2.2.2.2.1.below hwb) hrange.1 hrange.2
          have hcost : cost zs L u[k] = if zs.getD u[k].toNat 0 = 0 then 0 else if zs.getD u[k].toNat 0 = 1 then 1 else L := rfl
          generalize zs.getD u[k].toNat 0 = z at hmode hcost
          clear hwb
          have hz : (z = 0 ∧ ((z : Int) == 0) = true) ∨ (z = 1 ∧ ((z : Int) == 0) = false ∧ ((z : Int) == 1) = true) ∨ (((z : Int) == 0) = false ∧ ((z : Int) == 1) = false ∧ z ≠ 0 ∧ z ≠ 1) := by
            simp only [beq_eq_false_iff_ne, beq_iff_eq]
            omega
          generalize u[k] = v at *
          rcases hz with ⟨ez, q1⟩ | ⟨ez, q1, q2⟩ | ⟨q1, q2, ez, ez2⟩
          · have hck : cost zs L v = 0 := by rw [hcost, if_pos ez]
            clear ez hcost
            obtain ⟨g', c', w2, r, N2, B2⟩ := HR.out.1.app (by have := HR.out.2.1.size; have := HB2.out.2.2.1; omega) (by omega) (cost zs L v) 0 (by rw [hck]; rfl)
            have HA : Hid _ := r
            have HN : Hid (NRow w2 (Q + 1) (some ⟨g', 0, none⟩) (k + 1) c' ((u.take (k + 1)).map (cost zs L)) ∧ Below (Q + 1) W2 w2) := ⟨by rw [HT2.out]; exact N2, HR.out.2.1.trans B2⟩
            clear r N2 B2
            go_wp2_with (first
              | (go_at_call 11; refine hmode.mono ?_; rintro e w' ⟨rfl, e'⟩; obtain rfl := e'.symm)
              | (at_builtin; refine Lib.wpList_append_run _ rfl _ _ 27 27 rfl _ _ rfl rfl _ _ HA.out ?_))
            go_roundw
            case rel => exact ⟨k + 1, _, c', by go_num, by omega, rfl, HN.out.1, HN.out.2⟩
            case measure => simp [intOf]; omega
          · have hck : cost zs L v = 1 := by rw [hcost, if_neg (by omega), if_pos ez]
            clear ez hcost
            obtain ⟨g', c', w2, r, N2, B2⟩ := HR.out.1.app (by have := HR.out.2.1.size; have := HB2.out.2.2.1; omega) (by omega) (cost zs L v) 1 (by rw [hck]; rfl)
            have HA : Hid _ := r
            have HN : Hid (NRow w2 (Q + 1) (some ⟨g', 0, none⟩) (k + 1) c' ((u.take (k + 1)).map (cost zs L)) ∧ Below (Q + 1) W2 w2) := ⟨by rw [HT2.out]; exact N2, HR.out.2.1.trans B2⟩
            clear r N2 B2
            go_wp2_with (first
              | (go_at_call 11; refine hmode.mono ?_; rintro e w' ⟨rfl, e'⟩; obtain rfl := e'.symm)
              | (at_builtin; refine Lib.wpList_append_run _ rfl _ _ 27 27 rfl _ _ rfl rfl _ _ HA.out ?_))
            go_roundw
            case rel => exact ⟨k + 1, _, c', by go_num, by omega, rfl, HN.out.1, HN.out.2⟩
            case measure => simp [intOf]; omega
          · have hck : cost zs L v = L := by rw [hcost, if_neg ez, if_neg ez2]
            clear ez ez2 hcost
            obtain ⟨g', c', w2, r, N2, B2⟩ := HR.out.1.app (by have := HR.out.2.1.size; have := HB2.out.2.2.1; omega) (by omega) (cost zs L v) (L : Int) (by rw [hck])
            have HA : Hid _ := r
            have HN : Hid (NRow w2 (Q + 1) (some ⟨g', 0, none⟩) (k + 1) c' ((u.take (k + 1)).map (cost zs L)) ∧ Below (Q + 1) W2 w2) := ⟨by rw [HT2.out]; exact N2, HR.out.2.1.trans B2⟩
            clear r N2 B2
            go_wp2_with (first
              | (go_at_call 11; refine hmode.mono ?_; rintro e w' ⟨rfl, e'⟩; obtain rfl := e'.symm)
              | (at_builtin; refine Lib.wpList_append_run _ rfl _ _ 27 27 rfl _ _ rfl rfl _ _ HA.out ?_))
            go_roundw
            case rel => exact ⟨k + 1, _, c', by go_num, by omega, rfl, HN.out.1, HN.out.2⟩
            case measure => simp [intOf]; omega
      · obtain rfl : k = nu := by omega
        clear hwb
        have HU : Hid (NRow wr (Q + 1) p k c (u.map (cost zs L))) := by
          unfold Hid
          have := HR.out.1
          rwa [List.take_of_length_le (by have := HH.out.2.2.1; omega)] at this
        have z2 : wr.cell? ⟨Q, 2, none⟩ = some (.slice px nx cx) := by rw [World.cell?_of_block (w := W2) (HR.out.2.1.block Q (by omega))]; exact HB2.out.2.1.c2
        obtain ⟨wo, hwo⟩ : ∃ wo : World, wo = wr := ⟨_, rfl⟩
        rw [← hwo] at HR HU z2 ⊢
        clear hwo
        go_wp2
        go_loopw [10, 56] (fun s i wr => ∃ (k2 : Nat) (p : Option Addr) (c : Nat), i = .int .i64 k2 ∧ k2 ≤ nx ∧ s = .slice p (k + k2) c ∧ NRow wr (Q + 1) p (k + k2) c (u.map (cost zs L) ++ (x.take k2).map (valT zs L d D2)) ∧ Below (Q + 1) W2 wr) (fun _ i _ => nx - (intOf i).toNat)
        case atStart => exact ⟨0, p, c, rfl, Nat.zero_le _, rfl, by simpa using HU.out, HR.out.2.1⟩
        case round =>
          obtain ⟨k2, p2, c2, rfl, hk2, rfl, hN, hB⟩ := hrel
          have hwb : Below w.heap.size w wr := HB2.out.1.trans (hB.mono (by have := HB2.out.2.2.2; omega))
          have HS : Hid (NRow wr (Q + 1) p2 (k + k2) c2 (u.map (cost zs L) ++ (x.take k2).map (valT zs L d D2)) ∧ Below (Q + 1) W2 wr ∧ Below w.heap.size w wr) := ⟨hN, hB, hwb⟩
          clear hN hB
          by_cases hlt2 : k2 < nx
          · have hlx : k2 < x.length := by have := HH.out.2.2.2.1; omega
            rcases HH.out.2.1.below hwb with h1 | ⟨b, e, _, hc⟩
            · rw [h1] at hlx; simp at hlx
            · subst e
              obtain ⟨vs, is, a1, a2, a3, hr1⟩ := hc k2 hlx
              clear hc
              obtain ⟨r1, r2, r3, r4, r5, r6, rfl, rfl⟩ := Rep.slices d _ _ _ hr1
              have HT2 : Hid ((x.take (k2 + 1)).map (valT zs L d D2) = (x.take k2).map (valT zs L d D2) ++ [valT zs L d D2 x[k2]]) := by
                unfold Hid
                rw [List.take_succ_eq_append_getElem hlx, List.map_append]
                rfl
              have hal : ∀ n1 : Nat, Below wr.heap.size wr (wr.alloc (.cells #[.int .u64 (n1 : Int), .slice r1 r2 r3, .slice r4 r5 r6] 30)) := fun n1 => (Below.refl _ wr).alloc (Nat.le_refl _) _
              have hvt : ∀ v ∈ flat d x[k2], 0 ≤ v ∧ v < nn := fun v hv => HH.out.2.2.2.2.2.1 v (List.mem_append_right _ (List.mem_flatMap.2 ⟨_, List.getElem_mem _, hv⟩))
              have hvl : (flat d x[k2]).length ≤ 1000000000 := by
                have h1 := HH.out.2.2.2.2.2.2.1
                have h2 := le_flat_take x (k2 + 1)
                have h3 : (x.take (k2 + 1)).flatMap (flat d) = (x.take k2).flatMap (flat d) ++ flat d x[k2] := by rw [List.take_succ_eq_append_getElem hlx, List.flatMap_append]; simp
                rw [h3] at h2
                simp only [List.length_append] at h1 h2
                omega
              obtain ⟨n1, hn1⟩ : ∃ n, thr d x[k2] = n := ⟨_, rfl⟩
              obtain ⟨val, hval⟩ : ∃ v, valT zs L d D2 x[k2] = v := ⟨_, rfl⟩
              have hcon := HH.out.2.2.2.2.2.2.2.1 _ _ _ x[k2] D2 S (hr1.below (hal n1)) ((HH.out.2.2.2.2.1.below hwb).below (hal n1)) hvt hvl
              rw [hn1, hval] at hcon
              rw [hn1] at a1
              rw [hval] at HT2
              clear hr1 hvt hvl hn1 hval hwb
              first
                | (rw [show D2 = true from HT.out] at hcon)
                | skip
              go_wp2_with (go_at_call 14; fail)
              refine hcon.mono ?_
              clear hcon a1 a2 a3
              rintro e w3 ⟨rfl, hb3⟩
              have hbw : Below wr.heap.size wr w3 := (hal n1).trans (hb3.mono (hal n1).size)
              obtain ⟨g', c', w4, r, N2, B2⟩ := (HS.out.1.below hbw).app (by have := HS.out.2.1.size; have := HB2.out.2.2.1; have := hbw.size; omega) (by omega) val (val : Int) rfl
              have HA : Hid _ := r
              have HN : Hid (NRow w4 (Q + 1) (some ⟨g', 0, none⟩) (k + (k2 + 1)) c' (u.map (cost zs L) ++ (x.take (k2 + 1)).map (valT zs L d D2)) ∧ Below (Q + 1) W2 w4) := by
                refine ⟨by rw [HT2.out, ← List.append_assoc]; exact N2, (HS.out.2.1.trans (hbw.mono ?_)).trans B2⟩
                have := HS.out.2.1.size; have := HB2.out.2.2.1; omega
              clear r N2 B2 hb3 hbw hal
              go_wp2_with (at_builtin; refine Lib.wpList_append_run _ rfl _ _ 27 27 rfl _ _ rfl rfl _ _ HA.out ?_)
              go_roundw
              case rel => exact ⟨k2 + 1, _, c', by go_num, by omega, rfl, HN.out.1, HN.out.2⟩
              case measure => simp [intOf]; omega
          · obtain rfl : k2 = nx := by omega
            clear hwb
            obtain ⟨cs, hcs⟩ : ∃ cs, u.map (cost zs L) ++ x.map (valT zs L d D2) = cs := ⟨_, rfl⟩
            have hcl : ∀ c ∈ cs, c ≤ L := by
              intro c hc
              rw [← hcs] at hc
              rcases List.mem_append.1 hc with h | h
              · obtain ⟨v, _, rfl⟩ := List.mem_map.1 h; exact cost_le zs hL v
              · obtain ⟨y, _, rfl⟩ := List.mem_map.1 h; exact valT_le zs hL d _ y
            have hneed : need D2 L a cs = R := by rw [← hcs]; exact HH.out.2.2.2.2.2.2.2.2
            have hNR : NRow wr (Q + 1) p2 (k + k2) c2 cs := by
              have := HS.out.1
              rwa [List.take_of_length_le (by have := HH.out.2.2.2.1; omega), hcs] at this
            have hbw : Below (Q + 1) W2 wr := HS.out.2.1
            have z0 : wr.cell? ⟨Q, 0, none⟩ = some (.int .u64 (a : Nat)) := by rw [World.cell?_of_block (w := W2) (hbw.block Q (by omega))]; exact HB2.out.2.1.c0
            obtain ⟨M, hM⟩ : ∃ M, k + k2 = M := ⟨_, rfl⟩
            rw [hM] at hNR ⊢
            have hM4 : M ≤ 800 := by omega
            clear hM HS HR HU z2 hcs HH
            have HF : Hid (∀ w', Below (Q + 1) W2 w' → R3 (.returned (.int .i64 (R : Int))) w') := fun w' h => HE.out w' (HB2.out.1.trans (h.mono (by have := HB2.out.2.2.2; omega)))
            have HQ : Hid (∀ w', Below (Q + 1) W2 w' → w'.cell? ⟨Q, 0, none⟩ = some (.int .u64 (a : Nat))) := fun w' h => by rw [World.cell?_of_block (w := W2) (h.block Q (by omega))]; exact HB2.out.2.1.c0
            have HNR : Hid (NRow wr (Q + 1) p2 M c2 cs ∧ Below (Q + 1) W2 wr ∧ need D2 L a cs = R ∧ cs.length = M ∧ ∀ c ∈ cs, c ≤ L) := ⟨hNR, hbw, hneed, hNR.2, hcl⟩
            clear HE HB2 hNR hbw hneed hcl
            obtain ⟨wo, hwo⟩ : ∃ wo : World, wo = wr := ⟨_, rfl⟩
            rw [← hwo] at HNR z0 ⊢
            clear hwo
            by_cases h1 : M < a
            · have hR : R = L := by rw [← HNR.out.2.2.1]; unfold need; rw [if_pos (by rw [HNR.out.2.2.2.1]; exact h1)]
              rw [hR] at HF
              go_wp2
              exact HF.out _ HNR.out.2.1
            · by_cases h2 : a = 0
              · have hR : R = 0 := by rw [← HNR.out.2.2.1]; unfold need; rw [if_neg (by rw [HNR.out.2.2.2.1]; exact h1), if_pos h2]
                rw [hR] at HF
                subst h2
                go_wp2
                exact HF.out _ HNR.out.2.1
              · have hR : pick D2 L ((sortN cs).take a) 0 = R := by rw [← HNR.out.2.2.1]; unfold need; rw [if_neg (by rw [HNR.out.2.2.2.1]; exact h1), if_neg h2]
                go_wp2
                go_loopw [16] (fun i wr => ∃ (k3 : Nat) (ns : List Nat), i = .int .i64 k3 ∧ 1 ≤ k3 ∧ k3 ≤ M ∧ NRow wr (Q + 1) p2 M c2 ns ∧ Below (Q + 1) W2 wr ∧ ns.Perm cs ∧ (∀ a b, a < b → b < k3 → ns.getD a 0 ≤ ns.getD b 0)) (fun i _ => M - (intOf i).toNat)
                case atStart => exact ⟨1, cs, rfl, Nat.le_refl _, by omega, HNR.out.1, HNR.out.2.1, List.Perm.refl _, fun a b h1 h2 => by omega⟩
                case round =>
                  obtain ⟨k3, ns, rfl, hk1, hk3, hN, hB, hp, hsd⟩ := hrel
                  have HR : Hid (NRow wr (Q + 1) p2 M c2 ns ∧ Below (Q + 1) W2 wr ∧ ns.Perm cs ∧ (∀ a b, a < b → b < k3 → ns.getD a 0 ≤ ns.getD b 0)) := ⟨hN, hB, hp, hsd⟩
                  clear hN hB hp hsd
                  by_cases hlt3 : k3 < M
                  · obtain ⟨wp, hwp⟩ : ∃ wp : World, wp = wr := ⟨_, rfl⟩
                    rw [← hwp] at HR ⊢
                    clear hwp
                    go_wp2
                    go_loopw [17] (fun i wr => ∃ (j : Nat) (ns : List Nat), i = .int .i64 j ∧ j ≤ k3 ∧ NRow wr (Q + 1) p2 M c2 ns ∧ Below (Q + 1) W2 wr ∧ ns.Perm cs ∧ SortedBut ns k3 j) (fun i _ => (intOf i).toNat)
                    case atStart => exact ⟨k3, ns, rfl, Nat.le_refl _, HR.out.1, HR.out.2.1, HR.out.2.2.1, fun a b h1 h2 h3 => HR.out.2.2.2 a b h1 (by omega)⟩
                    case round =>
                      obtain ⟨j, ms, rfl, hj, hN, hB, hp, hsb⟩ := hrel
                      clear HR
                      cases j with
                      | zero =>
                        have HR : Hid (NRow wr (Q + 1) p2 M c2 ms ∧ Below (Q + 1) W2 wr ∧ ms.Perm cs ∧ (∀ a b, a < b → b < k3 + 1 → ms.getD a 0 ≤ ms.getD b 0)) := ⟨hN, hB, hp, fun a b h1 h2 => hsb.done0 a b h1 (by omega)⟩
                        clear hN hB hp hsb
                        go_wp2
                        go_quiet (fail)
                        go_wp2
                        go_roundw
                        case rel => exact ⟨k3 + 1, ms, by go_num, by omega, by omega, HR.out.1, below_drewN HR.out.2.1 _, HR.out.2.2.1, HR.out.2.2.2⟩
                        case measure => simp [intOf]; omega
                      | succ j =>
                        obtain ⟨g1, e1, hg1, y1, y1f⟩ := hN.get j (by omega)
                        obtain ⟨g2, e2, -, y2, y2f⟩ := hN.get (j + 1) (by omega)
                        rw [e1] at e2
                        cases e2
                        subst e1
                        obtain ⟨v, hv⟩ : ∃ v, ms.getD j 0 = v := ⟨_, rfl⟩
                        obtain ⟨v2, hv2⟩ : ∃ v, ms.getD (j + 1) 0 = v := ⟨_, rfl⟩
                        rw [hv] at y1
                        rw [hv2] at y2
                        by_cases hgt : v2 < v
                        · have HS : Hid (∀ (nq : Nat) (W3 : World), W3 = ((wr.drewN nq).setCell ⟨g1, j + 1, none⟩ (.int .i64 (v : Int))).setCell ⟨g1, j, none⟩ (.int .i64 (v2 : Int)) → ∃ ms', NRow W3 (Q + 1) (some ⟨g1, 0, none⟩) M c2 ms' ∧ Below (Q + 1) W2 W3 ∧ ms'.Perm cs ∧ SortedBut ms' k3 j) := fun nq W3 e => swap_row hN hB hg1 hp hsb hj hlt3 hv hv2 hgt W3 e
                          clear hN hB hp hsb hv hv2
                          have hd : decide ((v2 : Int) < (v : Int)) = true := decide_eq_true (by omega)
                          go_wp2
                          go_quiet (fail)
                          go_wp2
                          go_roundw
                          case rel =>
                            obtain ⟨ms', f1, f2, f3, f4⟩ := HS.out _ _ rfl
                            exact ⟨j, ms', by go_num, by omega, f1, f2, f3, f4⟩
                          case measure => simp [intOf]
                        · have HR : Hid (NRow wr (Q + 1) (some ⟨g1, 0, none⟩) M c2 ms ∧ Below (Q + 1) W2 wr ∧ ms.Perm cs ∧ (∀ a b, a < b → b < k3 + 1 → ms.getD a 0 ≤ ms.getD b 0)) := ⟨hN, hB, hp, fun a b h1 h2 => hsb.done hj (by omega) a b h1 (by omega)⟩
                          clear hN hB hp hsb hv hv2
                          have hd : decide ((v2 : Int) < (v : Int)) = false := decide_eq_false (by omega)
                          go_wp2
                          go_quiet (fail)
                          go_wp2
                          go_roundw
                          case rel => exact ⟨k3 + 1, ms, by go_num, by omega, by omega, HR.out.1, below_drewN HR.out.2.1 _, HR.out.2.2.1, HR.out.2.2.2⟩
                          case measure => simp [intOf]; omega
                  · obtain rfl : k3 = M := by omega
                    have hst : sortN cs = ns := sortN_eq HR.out.2.2.1 (sorted_of (fun a b h1 h2 => HR.out.2.2.2 a b h1 (by have := HR.out.1.2; omega)))
                    rw [hst] at hR
                    have z3 := HQ.out wr HR.out.2.1
                    have HP : Hid (NRow wr (Q + 1) p2 k3 c2 ns ∧ Below (Q + 1) W2 wr ∧ ns.length = k3 ∧ ∀ c ∈ ns, c ≤ L) := ⟨HR.out.1, HR.out.2.1, HR.out.1.2, fun c hc => HNR.out.2.2.2.2 c (HR.out.2.2.1.mem_iff.1 hc)⟩
                    obtain ⟨a', rfl⟩ : ∃ a', a = a' + 1 := ⟨a - 1, by omega⟩
                    clear HR hst HNR HQ
                    obtain ⟨wp, hwp⟩ : ∃ wp : World, wp = wr := ⟨_, rfl⟩
                    rw [← hwp] at HP z3 ⊢
                    clear hwp
                    cases D2
                    · first
                        | (exact absurd (show false = true from HT.out) (by simp))
                        | (obtain ⟨g1, e1, hg1, y1, y1f⟩ := HP.out.1.get a' (by omega)
                           have hv : ns.getD a' 0 = R := by
                             rw [← hR, pick_last L ns a' 0 (by have := HP.out.2.2.1; omega), List.getD_eq_getElem?_getD, List.getElem?_eq_getElem (by have := HP.out.2.2.1; omega)]
                             rfl
                           rw [hv] at y1
                           subst e1
                           clear hv hR
                           go_wp2
                           exact HF.out _ HP.out.2.1)
                    · clear HT
                      go_wp2
                      go_loopw [20, 21] (fun s i wr => ∃ k4 : Nat, i = .int .i64 k4 ∧ k4 ≤ a' + 1 ∧ s = .int .i64 ((pick true L (ns.take k4) 0 : Nat) : Int) ∧ NRow wr (Q + 1) p2 k3 c2 ns ∧ Below (Q + 1) W2 wr) (fun _ i _ => a' + 1 - (intOf i).toNat)
                      case atStart => exact ⟨0, rfl, Nat.zero_le _, rfl, HP.out.1, HP.out.2.1⟩
                      case round =>
                        obtain ⟨k4, rfl, hk4, rfl, hN, hB⟩ := hrel
                        by_cases hlt4 : k4 < a' + 1
                        · obtain ⟨g1, e1, hg1, y1, y1f⟩ := hN.get k4 (by omega)
                          have HR : Hid (NRow wr (Q + 1) p2 k3 c2 ns ∧ Below (Q + 1) W2 wr) := ⟨hN, hB⟩
                          have hps := pick_take_succ L ns k4 (by have := HP.out.2.2.1; omega)
                          have hpl := pick_le L (ns.take k4) 0 (Nat.zero_le _)
                          have hcl4 : ns.getD k4 0 ≤ L := by
                            rw [List.getD_eq_getElem?_getD, List.getElem?_eq_getElem (by have := HP.out.2.2.1; omega)]
                            exact HP.out.2.2.2 _ (List.getElem_mem _)
                          obtain ⟨v, hv⟩ : ∃ v, ns.getD k4 0 = v := ⟨_, rfl⟩
                          obtain ⟨s4, hs4⟩ : ∃ v, pick true L (ns.take k4) 0 = v := ⟨_, rfl⟩
                          obtain ⟨s5, hs5⟩ : ∃ v, pick true L (ns.take (k4 + 1)) 0 = v := ⟨_, rfl⟩
                          rw [hv] at y1 hps hcl4
                          rw [hs4] at hps hpl ⊢
                          rw [hs5] at hps
                          have HS5 : Hid (pick true L (ns.take (k4 + 1)) 0 = s5) := hs5
                          clear hv hs4 hs5 hN hB
                          have hw2 := wrap_sum hL2 hpl hcl4
                          subst e1
                          have hk9 : k4 ≤ 800 := by omega
                          have hs9 : s4 ≤ 40 := Nat.le_trans hpl hL2
                          have hv9 : v ≤ 40 := Nat.le_trans hcl4 hL2
                          have hk8 : k4 < k3 := by omega
                          clear hk hlt hk2 hlt2 hk1 hk3 hlt3 h2 h1 l1 l2 hm z0 z3 hg1 hM4 hR hk4 hcl4 hpl
                          by_cases hgt : L < s4 + v
                          · have hx := min_hi hps hgt
                            rw [hx] at HS5
                            clear hx hps
                            go_wp2
                            go_roundw
                            case rel => exact ⟨k4 + 1, by go_num, by omega, by rw [HS5.out], HR.out.1, HR.out.2⟩
                            case measure => simp [intOf]; omega
                          · have hx := min_lo hps hgt
                            rw [hx] at HS5
                            clear hx hps
                            go_wp2
                            go_roundw
                            case rel => exact ⟨k4 + 1, by go_num, by omega, by rw [HS5.out, Int.natCast_add], HR.out.1, HR.out.2⟩
                            case measure => simp [intOf]; omega
                        · obtain rfl : k4 = a' + 1 := by omega
                          rw [hR]
                          go_wp2
                          exact HF.out _ hB
theorem mod14 {m nn L g : Nat} {zs : List Nat} (hm : m ≤ 400) (hL : 1 ≤ L) (hL2 : L ≤ 40) : (d : Nat) → Mod14 m nn L g zs d
  | 0 => fun _ _ _ t => nomatch t
  | d + 1 => Mod14.succ hm hL hL2 (mod14 hm hL hL2 d)
end Go.Proofs.Ybulkbciw
