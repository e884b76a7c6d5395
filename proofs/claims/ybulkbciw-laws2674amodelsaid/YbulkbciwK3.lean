import Derived.Test.YbulkbciwK2
import Derived.Laws.Bits64b
namespace Go.Proofs.Ybulkbciw
open Go.RowKit
set_option linter.unusedSimpArgs false
set_option linter.unusedVariables false

/-- the place that 'mask >> (uint64(v) & 63)' shifts by -/
def sh (v : Int) : Nat := (IntKind.u64.wrap v).toNat &&& 63
theorem sh_bits (v : Int) : bits .and .u64 (IntKind.u64.wrap v) 63 = (sh v : Int) := by
  have h0 : 0 ≤ IntKind.u64.wrap v ∧ IntKind.u64.wrap v < 18446744073709551616 := by rw [IntKind.wrap_u64]; omega
  obtain ⟨n, hn⟩ : ∃ n : Nat, IntKind.u64.wrap v = n := ⟨(IntKind.u64.wrap v).toNat, by omega⟩
  unfold sh
  rw [hn]
  exact bits_and_u64_nat n 63 (by omega) (by omega)
theorem sh_le (v : Int) : sh v ≤ 63 := Nat.and_le_right
/-- is node v there, by the mask -/
def atMask (mask v : Int) : Bool := bits .and .u64 (mask / 2 ^ sh v) 1 == 1

def Sat22 (S : Nat → Prop) (m d : Nat) (mask : Int) : Prop := ∀ (w : World) (vs is : Value) (t : T d), Rep S m d w vs is t →
  Calls Yba.prog 22 #[.agg #[.int .u64 (thr d t : Nat), vs, is], .int .u64 mask] w fun e w' => e = .returned (.bool (satT (atMask mask) d t)) ∧ Below w.heap.size w w'

set_option maxHeartbeats 1000000 in
theorem Sat22.succ {S : Nat → Prop} {m d : Nat} {mask : Int} (hm : m ≤ 4611686018427387903) (ih : Sat22 S m d mask) : Sat22 S m (d + 1) mask := by
  obtain ⟨p, hp⟩ : ∃ p, atMask mask = p := ⟨_, rfl⟩
  rintro w vs is ⟨a, u, x⟩ ⟨pu, cu, px, cx, rfl, rfl, l1, l2, hu, hx⟩
  simp only at l1 l2 hu hx ⊢
  obtain ⟨nu, hnu⟩ : ∃ n, u.length = n := ⟨_, rfl⟩
  obtain ⟨nx, hnx⟩ : ∃ n, x.length = n := ⟨_, rfl⟩
  obtain ⟨R, hR⟩ : ∃ R, satT p (d + 1) (a, u, x) = R := ⟨_, rfl⟩
  rw [hp]
  have HU : Hid (IntRow S w pu u ∧ SetRow S m d w px x ∧ u.length = nu ∧ x.length = nx ∧ decide (a ≤ u.countP p + x.countP (satT p d)) = R ∧ Sat22 S m d mask ∧ atMask mask = p) := ⟨hu, hx, hnu, hnx, hR, ih, hp⟩
  rw [hnu] at l1 ⊢
  rw [hnx] at l2 ⊢
  rw [hR]
  clear hu hx hnu hnx hR ih hp
  show Calls Yba.prog 22 #[.agg #[.int .u64 (a : Nat), .slice pu nu cu, .slice px nx cx], .int .u64 mask] w _
  go_enter Yba.func22, Yba.ntmps22
  go_wp2
  obtain ⟨W, hW⟩ : ∃ W, w.alloc (.cells #[.int .u64 (a : Nat), .slice pu nu cu, .slice px nx cx] 30) = W := ⟨_, rfl⟩
  have HB : Hid (Below w.heap.size w W) := hW ▸ (Below.refl _ w).alloc (Nat.le_refl _) _
  have q0 : W.cell? ⟨w.heap.size, 0, none⟩ = some (.int .u64 (a : Nat)) := by rw [← hW]; simp
  have q2 : W.cell? ⟨w.heap.size, 2, none⟩ = some (.slice px nx cx) := by rw [← hW]; simp
  rw [hW]
  clear hW
  go_loopw [5, 13] (fun c i wr => ∃ k : Nat, i = .int .i64 k ∧ k ≤ nu ∧ c = .int .u64 ((u.take k).countP p : Nat) ∧ wr = W) (fun _ i _ => nu - (intOf i).toNat)
  case atStart => exact ⟨0, rfl, Nat.zero_le _, rfl, rfl⟩
  case round =>
    obtain ⟨k, rfl, hk, rfl, rfl⟩ := hrel
    by_cases hlt : k < nu
    · have hlu : k < u.length := by have := HU.out.2.2.1; omega
      rcases HU.out.1 with h1 | ⟨b, e, _, hc⟩
      · rw [h1] at hlu; simp at hlu
      · subst e
        have hcu := hc k hlu
        have hcw : wr.cell? ⟨b, k, none⟩ = some (.int .i64 u[k]) := by rw [World.cell?_of_block (w := w) (HB.out.block b (cell_lt hcu))]; exact hcu
        clear hc hcu
        have HT : Hid ((u.take (k + 1)).countP p = (u.take k).countP p + if p u[k] then 1 else 0) := by
          unfold Hid
          rw [List.take_succ_eq_append_getElem hlu, List.countP_append, List.countP_cons, List.countP_nil]
          simp
        have hcl : (u.take k).countP p ≤ k := Nat.le_trans List.countP_le_length (by simp; omega)
        generalize (u.take k).countP p = c at *
        generalize u[k] = v at *
        have h63 := sh_le v
        have hs := sh_bits v
        have HP : Hid (p v = (bits .and .u64 (mask / 2 ^ sh v) 1 == 1)) := by unfold Hid; rw [← HU.out.2.2.2.2.2.2]; rfl
        generalize sh v = s at *
        have hcw2 : IntKind.u64.wrap ((c : Int) + 1) = (c : Int) + 1 := by rw [IntKind.wrap_u64]; omega
        cases hpv : p v with
        | true =>
          have hb : (bits .and .u64 (mask / 2 ^ s) 1 == 1) = true := by rw [← HP.out, hpv]
          have HT2 : Hid ((u.take (k + 1)).countP p = c + 1) := by unfold Hid; rw [HT.out, hpv]; rfl
          go_wp2
          go_roundw
          case rel => exact ⟨k + 1, by go_num, by omega, by rw [HT2.out]; go_num, trivial⟩
          case measure => simp [intOf]; omega
        | false =>
          have hb : (bits .and .u64 (mask / 2 ^ s) 1 == 1) = false := by rw [← HP.out, hpv]
          have HT2 : Hid ((u.take (k + 1)).countP p = c) := by unfold Hid; rw [HT.out, hpv]; rfl
          go_wp2
          go_roundw
          case rel => exact ⟨k + 1, by go_num, by omega, by rw [HT2.out], trivial⟩
          case measure => simp [intOf]; omega
    · obtain rfl : k = nu := by omega
      have HC1 : Hid ((u.take k).countP p = u.countP p) := by unfold Hid; rw [List.take_of_length_le (by have := HU.out.2.2.1; omega)]
      have hcl : (u.take k).countP p ≤ k := Nat.le_trans List.countP_le_length (by simp; omega)
      generalize (u.take k).countP p = c1 at *
      obtain ⟨W, hWe⟩ : ∃ W, W = wr := ⟨_, rfl⟩
      rw [← hWe] at q0 q2 HB ⊢
      clear hWe
      have q0w : ∀ wr, Below W.heap.size W wr → wr.cell? ⟨w.heap.size, 0, none⟩ = some (.int .u64 (a : Nat)) := fun wr hb => by rw [World.cell?_of_block (w := W) (hb.block _ (cell_lt q0))]; exact q0
      have HQ : Hid (_) := q0w
      clear q0w
      go_wp2
      go_loopw [5, 30] (fun c i wr => ∃ k2 : Nat, i = .int .i64 k2 ∧ k2 ≤ nx ∧ c = .int .u64 (c1 + (x.take k2).countP (satT p d) : Nat) ∧ Below W.heap.size W wr) (fun _ i _ => nx - (intOf i).toNat)
      case atStart => exact ⟨0, rfl, Nat.zero_le _, rfl, Below.refl _ _⟩
      case round =>
        obtain ⟨k2, rfl, hk2, rfl, hbw⟩ := hrel
        have hbww := HB.out.trans (hbw.mono HB.out.size)
        have q0' := HQ.out wr hbw
        have HBW : Hid (Below W.heap.size W wr ∧ Below w.heap.size w wr) := ⟨hbw, hbww⟩
        clear hbw
        by_cases hlt2 : k2 < nx
        · have hlx : k2 < x.length := by have := HU.out.2.2.2.1; omega
          rcases HU.out.2.1.below hbww with h1 | ⟨b, e, _, hc⟩
          · rw [h1] at hlx; simp at hlx
          · subst e
            clear hbww
            obtain ⟨vs, is, a1, a2, a3, hr1⟩ := hc k2 hlx
            clear hc
            obtain ⟨r1, r2, r3, r4, r5, r6, rfl, rfl⟩ := Rep.slices d _ _ _ hr1
            have HT : Hid ((x.take (k2 + 1)).countP (satT p d) = (x.take k2).countP (satT p d) + if satT p d x[k2] then 1 else 0) := by
              unfold Hid
              rw [List.take_succ_eq_append_getElem hlx, List.countP_append, List.countP_cons, List.countP_nil]
              simp
            have hcl2 : (x.take k2).countP (satT p d) ≤ k2 := Nat.le_trans List.countP_le_length (by simp; omega)
            have HC : Hid (Rep S m d wr (.slice r1 r2 r3) (.slice r4 r5 r6) x[k2]) := hr1
            clear hr1
            generalize (x.take k2).countP (satT p d) = c2 at *
            generalize x[k2] = t at *
            obtain ⟨n1, hn1⟩ : ∃ n, thr d t = n := ⟨_, rfl⟩
            have HN : Hid (thr d t = n1) := hn1
            rw [hn1] at a1
            clear hn1
            have hcw2 : IntKind.u64.wrap ((c1 : Int) + (c2 : Int) + 1) = (c1 : Int) + (c2 : Int) + 1 := by rw [IntKind.wrap_u64]; omega
            go_wp2_with (go_at_call 22; fail)
            have hcon := HU.out.2.2.2.2.2.1 _ _ _ t (HC.out.below ((Below.refl _ wr).alloc (Nat.le_refl _) (.cells #[.int .u64 n1, .slice r1 r2 r3, .slice r4 r5 r6] 30)))
            rw [HN.out] at hcon
            refine hcon.mono ?_
            clear hcon a1 a2 a3 q0' q0
            obtain ⟨s, hs⟩ : ∃ s, satT (atMask mask) d t = s := ⟨_, rfl⟩
            rw [hs]
            rintro e w2 ⟨rfl, hg2⟩
            have HG : Hid (Below W.heap.size W w2) := (HBW.out.1.alloc HBW.out.1.size _).trans (hg2.mono (by have := HBW.out.1.size; simp; omega))
            have HS : Hid (satT p d t = s) := by unfold Hid; rw [← HU.out.2.2.2.2.2.2]; exact hs
            clear hg2 hs
            cases s with
            | true =>
              have HT2 : Hid ((x.take (k2 + 1)).countP (satT p d) = c2 + 1) := by unfold Hid; rw [HT.out, HS.out]; rfl
              go_wp2
              go_roundw
              case rel => exact ⟨k2 + 1, by go_num, by omega, by rw [HT2.out]; go_num, HG.out⟩
              case measure => simp [intOf]; omega
            | false =>
              have HT2 : Hid ((x.take (k2 + 1)).countP (satT p d) = c2) := by unfold Hid; rw [HT.out, HS.out]; rfl
              go_wp2
              go_roundw
              case rel => exact ⟨k2 + 1, by go_num, by omega, by rw [HT2.out]; go_num, HG.out⟩
              case measure => simp [intOf]; omega
        · obtain rfl : k2 = nx := by omega
          clear hbww
          have HC2 : Hid ((x.take k2).countP (satT p d) = x.countP (satT p d)) := by unfold Hid; rw [List.take_of_length_le (by have := HU.out.2.2.2.1; omega)]
          have HE : Hid (decide (a ≤ c1 + (x.take k2).countP (satT p d)) = R) := by unfold Hid; rw [HC1.out, HC2.out]; exact HU.out.2.2.2.2.1
          generalize (x.take k2).countP (satT p d) = c2 at *
          go_wp2
          go_ret
          refine ⟨?_, HBW.out.2⟩
          rw [← HE.out]
          show Ending.returned (.bool (decide ((a : Int) ≤ (c1 : Int) + (c2 : Int)))) = _
          rw [show decide ((a : Int) ≤ (c1 : Int) + (c2 : Int)) = decide (a ≤ c1 + c2) from decide_eq_decide.2 (by omega)]

theorem sat22 (S : Nat → Prop) {m : Nat} (hm : m ≤ 4611686018427387903) (mask : Int) : (d : Nat) → Sat22 S m d mask
  | 0 => fun _ _ _ t => nomatch t
  | d + 1 => Sat22.succ hm (sat22 S hm mask d)
end Go.Proofs.Ybulkbciw
