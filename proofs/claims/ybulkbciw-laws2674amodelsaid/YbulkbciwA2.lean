/- (QuorumSet[int]).members: the recursive walk, inside a fence -/
import Derived.RangeFuncNested
import Derived.RangeFuncBound
import Derived.RangeFuncCalls
import Derived.RangeFuncLeaves
import Derived.RangeFuncWrites
import Derived.Shelf.Abstract
import Derived.Shelf.RegionOpen
import Derived.WalkKit
import Derived.OwnWalkIn
import Derived.TacticsInMore
import Derived.LoopNIn
import Derived.LoopIn
import Derived.Test.YbulkbciwK4
namespace Go.Proofs.Ybulkbciw
open Go.RowKit Go.Shelf
attribute [local go_sem] Oper.semAt_some
set_option linter.unusedSimpArgs false
set_option linter.unusedVariables false

/-- the nodes that a set names, in the walk's order -/
def flat : (d : Nat) → T d → List Int
  | 0 => fun x => nomatch x
  | d + 1 => fun x => x.2.1 ++ x.2.2.flatMap (flat d)

/-- a node's number, as a number below 64 -/
def f64 (v : Int) : Fin 64 := ⟨(v % 64).toNat, by omega⟩
theorem f64_val {v : Int} (h0 : 0 ≤ v) (h1 : v < 64) : ((f64 v : Nat) : Int) = v := by
  show (((v % 64).toNat : Nat) : Int) = v
  omega

theorem room_none {F : Fence} (hd : F.depth = none) (k : Nat) : F.room k := fun d h => by rw [hd] at h; cases h
theorem round_any {F : Fence} (hd : F.depth = none) {m m' : Nat} {P : Program} {l : Nat} {f : FuncId} {tmps : Array Value} {assign body : Code} {w : World} {R : Ending → World → Prop}
    (h : RoundIn F m P l f tmps assign body w R) : RoundIn F m' P l f tmps assign body w R := ⟨h.1, fun c cs _ => h.2 c cs (room_none hd _)⟩
theorem yield_any {F : Fence} (hd : F.depth = none) {m : Nat} (m' : Nat) {P : Program} {l : Nat} {args : Array Value} {W : World} {R : Ending → World → Prop} (h : YieldAt F m P l args W R) : YieldAt F m' P l args W R := by
  obtain ⟨fn, tmps, assign, body, hy, hR⟩ := h
  exact ⟨fn, tmps, assign, body, hy, round_any hd hR⟩

/-- what a round that goes on keeps: every cell outside the block B -/
def Kp (B : Nat) (W W' : World) : Prop := W.heap.size ≤ W'.heap.size ∧ ∀ a v, a.block ≠ B → W.cell? a = some v → W'.cell? a = some v
theorem Kp.refl (B : Nat) (W : World) : Kp B W W := ⟨Nat.le_refl _, fun _ _ _ h => h⟩
theorem Kp.trans {B : Nat} {X Y Z : World} (h : Kp B X Y) (k : Kp B Y Z) : Kp B X Z := ⟨Nat.le_trans h.1 k.1, fun a v hb e => k.2 a v hb (h.2 a v hb e)⟩
theorem Kp.alloc (B : Nat) (W : World) (o : Obj) : Kp B W (W.alloc o) := ⟨by simp, fun a v _ e => cell_al e o⟩
theorem Kp.rep {B m d : Nat} {W W' : World} (h : Kp B W W') {vs is : Value} {t : T d} (hr : Rep (fun k => k ≠ B) m d W vs is t) : Rep (fun k => k ≠ B) m d W' vs is t :=
  Rep.keep (fun a v hs e => h.2 a v hs e) (fun _ _ e => e) (Nat.le_refl _) d vs is t hr

/-- the walk's three boxes -/
def Boxes (B l By Be Bw : Nat) (W : World) : Prop := W.cell? ⟨By, 0, none⟩ = some (.func (.yield l) #[] #[]) ∧ W.cell? ⟨Be, 0, none⟩ = some (.func (.func 35) #[] #[]) ∧ W.cell? ⟨Bw, 0, none⟩ = some (.func (.func 46) #[] #[.pointer (some ⟨By, 0, none⟩), .pointer (some ⟨Be, 0, none⟩), .pointer (some ⟨Bw, 0, none⟩)]) ∧ By ≠ B ∧ Be ≠ B ∧ Bw ≠ B
theorem Boxes.kp {B l By Be Bw : Nat} {W W' : World} (h : Boxes B l By Be Bw W) (k : Kp B W W') : Boxes B l By Be Bw W' :=
  ⟨k.2 _ _ h.2.2.2.1 h.1, k.2 _ _ h.2.2.2.2.1 h.2.1, k.2 _ _ h.2.2.2.2.2 h.2.2.1, h.2.2.2⟩

set_option maxHeartbeats 400000 in
theorem enter35_in (n : Nat) (a : Nat) (p1 : Option Addr) (n1 c1 : Nat) (p2 : Option Addr) (n2 c2 : Nat) (w : World) :
    CallsIn Fence.wide n Yba.prog 35 #[.agg #[.int .u64 a, .slice p1 n1 c1, .slice p2 n2 c2]] w fun e w' => e = .returned (.bool true) ∧ w' = w.alloc (.cells #[.int .u64 a, .slice p1 n1 c1, .slice p2 n2 c2] 30) := by
  refine callsIn_wide.2 ?_
  go_enter Yba.func35, Yba.ntmps35
  go_wp2
  go_ret
  exact ⟨rfl, rfl⟩

/-- what is said of the walk at trees d deep -/
def Walk46 (B l N m : Nat) (J Jx : List (Fin 64) → World → Prop) (d : Nat) : Prop :=
  ∀ (n : Nat) (vs is : Value) (t : T d) (By Be Bw : Nat) (pre : List (Fin 64)) (W : World), Rep (fun k => k ≠ B) m d W vs is t → (∀ v ∈ flat d t, 0 ≤ v ∧ v < 64) → Boxes B l By Be Bw W → B < W.heap.size → J pre W → pre.length + (flat d t).length ≤ N →
    CallsIn Fence.wide n Yba.prog 46 #[.agg #[.int .u64 (thr d t : Nat), vs, is], .pointer (some ⟨By, 0, none⟩), .pointer (some ⟨Be, 0, none⟩), .pointer (some ⟨Bw, 0, none⟩)] W fun e W' =>
      (e = .returned (.bool true) ∧ J (pre ++ (flat d t).map f64) W' ∧ Kp B W W') ∨ (e = .returned (.bool false) ∧ ∃ q, q <+: (flat d t).map f64 ∧ Jx (pre ++ q) W')

set_option maxHeartbeats 2000000 in
set_option maxRecDepth 100000 in
theorem Walk46.succ {B l N m : Nat} {J Jx : List (Fin 64) → World → Prop} {d : Nat} (hm : m ≤ 1000) (hJa : ∀ s W o, J s W → J s (W.alloc o))
    (hY : ∀ k pre (x : Fin 64) W, J pre W → pre.length < N → YieldAt Fence.wide k Yba.prog l #[.int .i64 ((x : Nat) : Int)] W fun e W' => (e = .returned (.bool true) ∧ J (pre ++ [x]) W' ∧ Kp B W W') ∨ (e = .returned (.bool false) ∧ Jx (pre ++ [x]) W'))
    (ih : Walk46 B l N m J Jx d) : Walk46 B l N m J Jx (d + 1) := by
  rintro n vs is ⟨a, u, x⟩ By Be Bw pre W ⟨pu, cu, px, cx, rfl, rfl, l1, l2, hu, hx⟩ hv hbx hBW hJ hN
  simp only at l1 l2 hu hx hv hN ⊢
  obtain ⟨nu, hnu⟩ : ∃ k, u.length = k := ⟨_, rfl⟩
  obtain ⟨nx, hnx⟩ : ∃ k, x.length = k := ⟨_, rfl⟩
  rw [hnu] at l1 ⊢
  rw [hnx] at l2 ⊢
  show CallsIn Fence.wide n Yba.prog 46 #[.agg #[.int .u64 (a : Nat), .slice pu nu cu, .slice px nx cx], .pointer (some ⟨By, 0, none⟩), .pointer (some ⟨Be, 0, none⟩), .pointer (some ⟨Bw, 0, none⟩)] W _
  have HH : Hid (IntRow (fun k => k ≠ B) W pu u ∧ SetRow (fun k => k ≠ B) m d W px x ∧ u.length = nu ∧ x.length = nx ∧ (∀ v ∈ u ++ x.flatMap (flat d), 0 ≤ v ∧ v < 64) ∧ Boxes B l By Be Bw W ∧ J pre W ∧ pre.length + (u ++ x.flatMap (flat d)).length ≤ N) := ⟨hu, hx, hnu, hnx, hv, hbx, hJ, hN⟩
  have HY : Hid (∀ k pre (x : Fin 64) W, J pre W → pre.length < N → YieldAt Fence.wide k Yba.prog l #[.int .i64 ((x : Nat) : Int)] W fun e W' => (e = .returned (.bool true) ∧ J (pre ++ [x]) W' ∧ Kp B W W') ∨ (e = .returned (.bool false) ∧ Jx (pre ++ [x]) W')) := hY
  have HA : Hid (∀ s W o, J s W → J s (W.alloc o)) := hJa
  have HI : Hid (Walk46 B l N m J Jx d) := ih
  clear hu hx hnu hnx hv hbx hJ hN hY hJa ih
  refine callsIn_of_wp Yba.func46 rfl trivial ?_ rfl
  simp only [Yba.ntmps46, List.size_toArray, List.length_cons, List.length_nil, Nat.reduceAdd, Nat.reduceSub, Array.replicate_succ, Array.replicate_zero, List.push_toArray, List.append_toArray, List.nil_append, List.cons_append]
  gi_wp2
  obtain ⟨Q, hQ⟩ : ∃ Q, W.heap.size = Q := ⟨_, rfl⟩
  obtain ⟨W1, hW1⟩ : ∃ W', W.alloc (.cells #[.int .u64 (a : Nat), .slice pu nu cu, .slice px nx cx] 30) = W' := ⟨_, rfl⟩
  have H1 : Hid (Kp B W W1 ∧ J pre W1 ∧ W1.cell? ⟨Q, 2, none⟩ = some (.slice px nx cx) ∧ Q ≠ B ∧ B < W1.heap.size) := by
    subst hW1
    subst hQ
    exact ⟨Kp.alloc B W _, HA.out _ _ _ HH.out.2.2.2.2.2.2.1, by simp, by omega, by simp; omega⟩
  rw [hQ, hW1]
  clear hQ hW1
  gi_loopw [13] (fun i wr => ∃ k : Nat, i = .int .i64 k ∧ k ≤ nu ∧ J (pre ++ (u.take k).map f64) wr ∧ Kp B W1 wr) (fun i _ => nu - (intOf i).toNat)
  case atStart => exact ⟨0, rfl, Nat.zero_le _, by simpa using H1.out.2.1, Kp.refl _ _⟩
  case round =>
    obtain ⟨k, rfl, hk, hJk, hKk⟩ := hrel
    have HR : Hid (J (pre ++ (u.take k).map f64) wr ∧ Kp B W1 wr ∧ Kp B W wr) := ⟨hJk, hKk, H1.out.1.trans hKk⟩
    clear hJk hKk
    by_cases hlt : k < nu
    · have hlu : k < u.length := by have := HH.out.2.2.1; omega
      rcases HH.out.1 with h1 | ⟨b, e, hbB, hc⟩
      · rw [h1] at hlu; simp at hlu
      · subst e
        have hcw := HR.out.2.2.2 _ _ hbB (hc k hlu)
        clear hc
        have hyb := (HH.out.2.2.2.2.2.1.kp HR.out.2.2).1
        have hrange := HH.out.2.2.2.2.1 u[k] (List.mem_append_left _ (List.getElem_mem _))
        have HT : Hid (pre ++ (u.take (k + 1)).map f64 = pre ++ (u.take k).map f64 ++ [f64 u[k]]) := by
          unfold Hid
          rw [List.take_succ_eq_append_getElem hlu, List.map_append, List.append_assoc]
          rfl
        have hlen : (pre ++ (u.take k).map f64).length < N := by
          have := HH.out.2.2.2.2.2.2.2
          simp at this ⊢
          omega
        obtain ⟨fn, tmps, assign, body, hy, hR⟩ := HY.out (n - 1) (pre ++ (u.take k).map f64) (f64 u[k]) wr HR.out.1 hlen
        rw [f64_val hrange.1 hrange.2] at hy
        clear hlen
        generalize u[k] = v at *
        gi_wp2
        refine ⟨fun h => (by cases h), ?_⟩
        refine hR.mono ?_
        clear hR hy
        rintro e W3 (⟨rfl, hJ3, hk3⟩ | ⟨rfl, hJx3⟩)
        · have H3 : Hid (J (pre ++ (u.take (k + 1)).map f64) W3 ∧ Kp B W1 W3) := ⟨by rw [HT.out]; exact hJ3, HR.out.2.1.trans hk3⟩
          clear hJ3 hk3
          gi_wp2
          go_roundw
          case rel => exact ⟨k + 1, by go_num, by omega, H3.out.1, H3.out.2⟩
          case measure => simp [intOf]; omega
        · have H3 : Hid (Jx (pre ++ (u.take (k + 1)).map f64) W3) := by unfold Hid; rw [HT.out]; exact hJx3
          clear hJx3
          gi_wp2
          go_ret
          refine .inr ⟨rfl, (u.take (k + 1)).map f64, ?_, H3.out⟩
          show (u.take (k + 1)).map f64 <+: (u ++ x.flatMap (flat d)).map f64
          rw [List.map_append]
          exact (List.IsPrefix.map _ (List.take_prefix _ _)).trans (List.prefix_append _ _)
    · obtain rfl : k = nu := by omega
      have HU : Hid (J (pre ++ u.map f64) wr) := by
        unfold Hid
        have := HR.out.1
        rwa [List.take_of_length_le (by have := HH.out.2.2.1; omega)] at this
      have z2 := HR.out.2.1.2 _ _ H1.out.2.2.2.1 H1.out.2.2.1
      obtain ⟨wo, hwo⟩ : ∃ wo : World, wo = wr := ⟨_, rfl⟩
      rw [← hwo] at HR HU z2 ⊢
      clear hwo
      gi_wp2
      gi_loopw [25] (fun i wr => ∃ k2 : Nat, i = .int .i64 k2 ∧ k2 ≤ nx ∧ J (pre ++ (u ++ (x.take k2).flatMap (flat d)).map f64) wr ∧ Kp B W1 wr) (fun i _ => nx - (intOf i).toNat)
      case atStart => exact ⟨0, rfl, Nat.zero_le _, by simpa using HU.out, HR.out.2.1⟩
      case round =>
        obtain ⟨k2, rfl, hk2, hJk, hKk⟩ := hrel
        have HS : Hid (J (pre ++ (u ++ (x.take k2).flatMap (flat d)).map f64) wr ∧ Kp B W1 wr ∧ Kp B W wr) := ⟨hJk, hKk, H1.out.1.trans hKk⟩
        clear hJk hKk
        by_cases hlt2 : k2 < nx
        · have hlx : k2 < x.length := by have := HH.out.2.2.2.1; omega
          rcases HH.out.2.1 with h1 | ⟨b, e, hbB, hc⟩
          · rw [h1] at hlx; simp at hlx
          · subst e
            obtain ⟨vs, is, a1, a2, a3, hr1⟩ := hc k2 hlx
            clear hc
            obtain ⟨r1, r2, r3, r4, r5, r6, rfl, rfl⟩ := Rep.slices d _ _ _ hr1
            replace a1 := HS.out.2.2.2 _ _ hbB a1
            replace a2 := HS.out.2.2.2 _ _ hbB a2
            replace a3 := HS.out.2.2.2 _ _ hbB a3
            have HRp : Hid (Rep (fun k => k ≠ B) m d wr (.slice r1 r2 r3) (.slice r4 r5 r6) x[k2]) := HS.out.2.2.rep hr1
            clear hr1
            have HT : Hid ((x.take (k2 + 1)).flatMap (flat d) = (x.take k2).flatMap (flat d) ++ flat d x[k2]) := by
              unfold Hid
              rw [List.take_succ_eq_append_getElem hlx, List.flatMap_append]
              simp
            have HP : Hid ((x.take (k2 + 1)).flatMap (flat d) <+: x.flatMap (flat d)) := by
              unfold Hid
              have h : x.flatMap (flat d) = (x.take (k2 + 1)).flatMap (flat d) ++ (x.drop (k2 + 1)).flatMap (flat d) := by
                rw [← List.flatMap_append, List.take_append_drop]
              rw [h]
              exact List.prefix_append _ _
            have hvt : ∀ v ∈ flat d x[k2], 0 ≤ v ∧ v < 64 := fun v hv => HH.out.2.2.2.2.1 v (List.mem_append_right _ (List.mem_flatMap.2 ⟨_, List.getElem_mem _, hv⟩))
            generalize x[k2] = t at *
            obtain ⟨n1, hn1⟩ : ∃ n, thr d t = n := ⟨_, rfl⟩
            have hk3 : Kp B wr ((wr.alloc (.cells #[.int .u64 (n1 : Nat), .slice r1 r2 r3, .slice r4 r5 r6] 30)).alloc (.cells #[.int .u64 (n1 : Nat), .slice r1 r2 r3, .slice r4 r5 r6] 30)) := (Kp.alloc B wr _).trans (Kp.alloc B _ _)
            have hwc := HI.out (n - 1) _ _ t By Be Bw (pre ++ (u ++ (x.take k2).flatMap (flat d)).map f64) _ (hk3.rep HRp.out) hvt ((HH.out.2.2.2.2.2.1.kp HS.out.2.2).kp hk3) (by have := HS.out.2.2.1; simp; omega) (HA.out _ _ _ (HA.out _ _ _ HS.out.1)) (by
              have h1 := HH.out.2.2.2.2.2.2.2
              have h2 := HP.out.length_le
              rw [HT.out] at h2
              simp at h1 h2 ⊢
              omega)
            rw [hn1] at hwc a1
            have hbx := HH.out.2.2.2.2.2.1.kp HS.out.2.2
            have e1 := cell_al hbx.2.1
            have e2 : ∀ o o', ((wr.alloc o).alloc o').cell? ⟨Bw, 0, none⟩ = _ := fun o o' => cell_al (cell_al hbx.2.2.1 o) o'
            clear hk3 hn1 hvt hbx
            gi_wp2
            refine ⟨trivial, fun h => (by cases h), ?_⟩
            refine (enter35_in _ _ _ _ _ _ _ _ _).mono ?_
            rintro e w' ⟨rfl, e'⟩
            obtain rfl := e'.symm
            gi_wp2
            refine ⟨trivial, fun h => (by cases h), ?_⟩
            refine hwc.mono ?_
            clear hwc
            rintro e W4 (⟨rfl, hJ4, hk4⟩ | ⟨rfl, q, hq, hx4⟩)
            · have H4 : Hid (J (pre ++ (u ++ (x.take (k2 + 1)).flatMap (flat d)).map f64) W4 ∧ Kp B W1 W4) := by
                refine ⟨?_, HS.out.2.1.trans (((Kp.alloc B wr _).trans (Kp.alloc B _ _)).trans hk4)⟩
                rw [HT.out, ← List.append_assoc, List.map_append, ← List.append_assoc]
                exact hJ4
              clear hJ4 hk4
              gi_wp2
              go_roundw
              case rel => exact ⟨k2 + 1, by go_num, by omega, H4.out.1, H4.out.2⟩
              case measure => simp [intOf]; omega
            · have H4 : Hid (∃ q', q' <+: (u ++ x.flatMap (flat d)).map f64 ∧ Jx (pre ++ q') W4) := by
                refine ⟨(u ++ (x.take k2).flatMap (flat d)).map f64 ++ q, ?_, by rw [← List.append_assoc]; exact hx4⟩
                have h1 : (u ++ (x.take (k2 + 1)).flatMap (flat d)).map f64 <+: (u ++ x.flatMap (flat d)).map f64 := List.IsPrefix.map _ (List.prefix_append_right_inj u |>.2 HP.out)
                refine List.IsPrefix.trans ?_ h1
                rw [HT.out, ← List.append_assoc, List.map_append (l₁ := u ++ (x.take k2).flatMap (flat d))]
                exact (List.prefix_append_right_inj _).2 hq
              clear hq hx4
              gi_wp2
              go_ret
              exact .inr ⟨rfl, H4.out⟩
        · obtain rfl : k2 = nx := by omega
          have H5 : Hid (J (pre ++ (u ++ x.flatMap (flat d)).map f64) wr ∧ Kp B W wr) := by
            have h := HS.out.1
            rw [List.take_of_length_le (by have := HH.out.2.2.2.1; omega)] at h
            exact ⟨h, HS.out.2.2⟩
          gi_wp2
          go_ret
          exact .inl ⟨rfl, H5.out.1, H5.out.2⟩

theorem walk46 {B l N m : Nat} {J Jx : List (Fin 64) → World → Prop} (hm : m ≤ 1000) (hJa : ∀ s W o, J s W → J s (W.alloc o))
    (hY : ∀ k pre (x : Fin 64) W, J pre W → pre.length < N → YieldAt Fence.wide k Yba.prog l #[.int .i64 ((x : Nat) : Int)] W fun e W' => (e = .returned (.bool true) ∧ J (pre ++ [x]) W' ∧ Kp B W W') ∨ (e = .returned (.bool false) ∧ Jx (pre ++ [x]) W')) :
    (d : Nat) → Walk46 B l N m J Jx d
  | 0 => fun _ _ _ t => nomatch t
  | d + 1 => Walk46.succ hm hJa hY (walk46 hm hJa hY d)
end Go.Proofs.Ybulkbciw
