import Derived.Test.YbulkbckmA9
import Derived.Outline
namespace Go.Proofs.Ybulkbckm
open Go.RowKit
set_option linter.unusedSimpArgs false
set_option linter.unusedVariables false

theorem rep_any' (pa : Option Addr) (l c k : Nat) (kk : Int) (bs : List UInt8) (w : World) (hs : Src w pa l bs) (l1 : l ≤ 4096) (ek : kk = k) (h1 : 1 ≤ k) (h2 : k ≤ 4096) :
    Calls Yba.prog 4 #[.slice pa l c, .int .i64 kk] w fun e w' => ∃ p n cap ys, e = .returned (.slice p n cap) ∧ n = l * k ∧ n ≤ 16777216 ∧ Hid (Src w' p n ys ∧ (0 < n → ∀ ad, p = some ad → w.heap.size ≤ ad.block) ∧ Below w.heap.size w w') := by
  subst ek
  refine (rep_any pa l c k bs w hs l1 h1 h2).mono ?_
  rintro e w' ⟨p, cap, ys, rfl, a, b, c⟩
  exact ⟨p, _, cap, ys, rfl, rfl, Nat.le_trans (Nat.mul_le_mul l1 h2) (by decide), a, b, c⟩

set_option maxHeartbeats 4000000 in
set_option maxRecDepth 100000 in
theorem law3_walk (ai ar : Option Addr) (li ci lr cr : Nat) (un : Bool) (w : World) (hI : Items w ai li) (hR : Reps w ar lr) (hl : li ≤ 256) (hlr : lr ≤ 9223372036854775807) :
    Calls Yba.prog 3 #[.slice ai li ci, .slice ar lr cr, .bool un] w fun e w' => e = .returned (.bool true) ∧ Below w.heap.size w w' := by
  have HI : Hid (Items w ai li ∧ Reps w ar lr) := ⟨hI, hR⟩
  clear hI hR
  go_enter Yba.func3, Yba.ntmps3
  go_wp2
  go_loopw [7, 30] (fun t i wr => ∃ T k : Nat, t = .int .i64 T ∧ i = .int .i64 k ∧ k ≤ li ∧ T ≤ k * 16777216 ∧ wr = w ∧ Short w ai k) (fun _ i _ => li - (intOf i).toNat)
  case atStart => exact ⟨0, 0, rfl, rfl, Nat.zero_le _, Nat.zero_le _, rfl, fun i hi => by omega⟩
  case round =>
    obtain ⟨T, k, rfl, rfl, hk, hT, rfl, hS⟩ := hrel
    have HS : Hid (Short wr ai k) := hS
    clear hS
    by_cases hlt : k < li
    · obtain ⟨b, off, a, l, c, bs, e1, hc, hl9, hsrc⟩ := HI.out.1 k hlt
      subst e1
      clear hsrc
      by_cases hbig : 4096 < l
      · go_wp2
        go_ret
        exact ⟨rfl, Below.refl _ _⟩
      · have HS2 : Hid (Short wr (some ⟨b, off, none⟩) (k + 1)) := HS.out.succ rfl hc (by omega)
        by_cases hkr : k < lr
        · obtain ⟨b2, off2, x, e2, hx, x0, x1⟩ := HI.out.2 k hkr
          subst e2
          obtain ⟨m, hm, hm2⟩ : ∃ m : Nat, (l : Int) * (x % 4096 + 1) = m ∧ m ≤ 16777216 := by
            obtain ⟨y, hy⟩ : ∃ y : Nat, x % 4096 + 1 = y := ⟨(x % 4096 + 1).toNat, by omega⟩
            refine ⟨l * y, by rw [hy, Int.natCast_mul], ?_⟩
            exact Nat.le_trans (Nat.mul_le_mul (by omega : l ≤ 4096) (by omega : y ≤ 4096)) (by decide)
          have hw1 : wrap64 (m : Int) = m := by unfold wrap64; omega
          have hw2 : wrap64 ((T : Int) + (m : Int)) = (T : Int) + m := by unfold wrap64; omega
          go_wp2
          go_roundw
          case rel => exact ⟨T + m, k + 1, by go_num, by go_num, by omega, by omega, trivial, HS2.out⟩
          case measure => simp [intOf]; omega
        · have hw2 : wrap64 ((T : Int) + (l : Int)) = (T : Int) + l := by unfold wrap64; omega
          go_wp2
          go_roundw
          case rel => exact ⟨T + l, k + 1, by go_num, by go_num, by omega, by omega, trivial, HS2.out⟩
          case measure => simp [intOf]; omega
    · obtain rfl : k = li := by omega
      obtain ⟨w, rfl⟩ : ∃ w : World, w = wr := ⟨_, rfl⟩
      by_cases htot : 8388608 < T
      · go_wp2
        go_ret
        exact ⟨rfl, Below.refl _ _⟩
      · clear hT
        have mk := make32 k (by omega)
        cases un with
        | true =>
          go_wp2
          go_loopw [11, 12, 74] (fun b o i wr => ∃ (j : Nat) (ss : List ByteArray), i = .int .i64 j ∧ j ≤ k ∧ ss.length = j ∧ b = .slice (some ⟨w.heap.size, 0, none⟩) j k ∧ o = .slice (some ⟨w.heap.size + 1, 0, none⟩) j k ∧ StrRow wr w.heap.size k ss ∧ StrRow wr (w.heap.size + 1) k ss ∧ Below w.heap.size w wr) (fun _ _ i _ => k - (intOf i).toNat)
          case atStart => exact ⟨0, [], rfl, Nat.zero_le _, rfl, rfl, rfl, (StrRow.new w k).alloc _, by have := StrRow.new (w.alloc (.cells (madeCells #[.string ⟨#[]⟩] k) 9)) k; simpa using this, ((Below.refl w.heap.size w).alloc (Nat.le_refl _) _).alloc (by simp) _⟩
          case round =>
            obtain ⟨j, ss, rfl, hj, hss, rfl, rfl, h1, h2, hb⟩ := hrel
            by_cases hjk : j < k
            · obtain ⟨b, off, a, l, c, bs, e1, hc, hl4, hsrc, hold⟩ := item_at hb HI.out.1 HS.out hjk
              subst e1
              have HH : Hid (Src wr a l bs) := hsrc
              have HB : Hid (ss.length = j ∧ StrRow wr w.heap.size k ss ∧ StrRow wr (w.heap.size + 1) k ss ∧ Below w.heap.size w wr) := ⟨hss, h1, h2, hb⟩
              clear hsrc hold hss h1 h2 hb
              rcases Decidable.em (j < lr) with hkr | hkr
              all_goals first
                | (obtain ⟨b2, off2, x, e2, hx, x0, x1⟩ := rep_at HB.out.2.2.2 HI.out.2 hkr
                   subst e2
                   obtain ⟨y, HY⟩ : ∃ y : Nat, Hid (1 ≤ y ∧ y ≤ 4096 ∧ x % 4096 + 1 = y) := ⟨(x % 4096 + 1).toNat, by omega, by omega, by omega⟩
                   go_wp2_with (go_at_call 4; fail)
                   refine (rep_any' a l c y _ bs wr HH.out hl4 HY.out.2.2 HY.out.1 HY.out.2.1).mono ?_)
                | (go_wp2_with (go_at_call 4; fail)
                   refine (rep_any' a l c 1 _ bs wr HH.out hl4 rfl (Nat.le_refl _) (by decide)).mono ?_)
              all_goals
                rintro e w1 ⟨p, n, cp, ys, rfl, en, hn, H1⟩
                clear en
                have hcv := conv_src w1 p n cp ys H1.out.1
                obtain ⟨wA, wB, HA1, HA2, HA⟩ : ∃ wA wB, Hid _ ∧ Hid _ ∧ Hid _ := app2 (HB.out.2.1.below H1.out.2.2) (HB.out.2.2.1.below H1.out.2.2) (by omega) HB.out.1 hjk ⟨ys.toArray⟩
                go_wp2_with (first
                  | (go_at_call 7; refine (text7_no n cp p ys w1 H1.out.1 hn).mono ?_; rintro e w2 ⟨rfl, e2⟩; obtain rfl := e2.symm)
                  | (at_builtin; refine Lib.wpList_append_run _ rfl (.tmp 167) (.tmp 169) 32 32 rfl _ _ rfl rfl _ _ HA1.out ?_)
                  | (at_builtin; refine Lib.wpList_append_run _ rfl (.tmp 171) (.tmp 173) 32 32 rfl _ _ rfl rfl _ _ HA2.out ?_))
                go_roundw
                case rel => exact ⟨j + 1, ss ++ [⟨ys.toArray⟩], by go_num, by omega, by simp [HB.out.1], rfl, rfl, HA.out.1, HA.out.2.1, keep3 HB.out.2.2.2 H1.out.2.2 HA.out.2.2 (fun q hq e => by omega)⟩
                case measure => simp [intOf]; omega
            · obtain rfl : j = k := by omega
              have HB : Hid (ss.length = j ∧ StrRow wr w.heap.size j ss ∧ StrRow wr (w.heap.size + 1) j ss ∧ Below w.heap.size w wr) := ⟨hss, h1, h2, hb⟩
              clear hss h1 h2 hb
              go_wp2
              obtain ⟨wo, rfl⟩ : ∃ wo : World, wo = wr := ⟨_, rfl⟩
              go_loopw [178] (fun i wr => ∃ m : Nat, i = .int .i64 m ∧ m ≤ j ∧ StrRow wr w.heap.size j ss ∧ StrRow wr (w.heap.size + 1) j ss ∧ Below w.heap.size w wr) (fun i _ => j - (intOf i).toNat)
              case atStart => exact ⟨0, rfl, Nat.zero_le _, HB.out.2⟩
              case round =>
                obtain ⟨m, rfl, hm, hr⟩ := hrel
                by_cases hmj : m < j
                · have c1 := hr.1.get m (by rw [HB.out.1]; exact hmj)
                  have c2 := hr.2.1.get m (by rw [HB.out.1]; exact hmj)
                  generalize ss[m]'(by rw [HB.out.1]; exact hmj) = s at c1 c2
                  have HR : Hid (StrRow wr w.heap.size j ss ∧ StrRow wr (w.heap.size + 1) j ss ∧ Below w.heap.size w wr) := hr
                  clear hr
                  go_wp2
                  go_quiet (fail)
                  go_wp2
                  go_roundw
                  case rel => exact ⟨m + 1, by go_num, by omega, HR.out.1, HR.out.2.1, ⟨HR.out.2.2.1, HR.out.2.2.2, HR.out.2.2.3, HR.out.2.2.4, HR.out.2.2.5⟩⟩
                  case measure => simp [intOf]; omega
                · obtain rfl : m = j := by omega
                  go_wp2
                  go_ret
                  exact ⟨rfl, hr.2.2⟩
        | false =>
          go_wp2
          go_loopw [11, 12, 74] (fun b o i wr => ∃ (j : Nat) (ss : List ByteArray) (g : Option Nat) (l cap : Nat), i = .int .i64 j ∧ j ≤ k ∧ ss.length = j ∧ b = .slice (some ⟨w.heap.size + 1, 0, none⟩) j k ∧ o = .slice (some ⟨w.heap.size + 2, 0, none⟩) j k ∧ Inv w wr k ss g l cap) (fun _ _ i _ => k - (intOf i).toNat)
          case atStart => exact ⟨0, [], none, 0, 0, rfl, Nat.zero_le _, rfl, rfl, rfl, Inv.start w k⟩
          case round =>
            obtain ⟨j, ss, g, lo, co, rfl, hj, hss, rfl, rfl, hinv⟩ := hrel
            by_cases hjk : j < k
            · obtain ⟨b, off, a, l, c, bs, e1, hc, hl4, hsrc, hold⟩ := item_at hinv.2.2.2.2 HI.out.1 HS.out hjk
              subst e1
              have HH : Hid (Src wr a l bs) := hsrc
              have HB : Hid (ss.length = j ∧ Inv w wr k ss g lo co) := ⟨hss, hinv⟩
              clear hsrc hold hss hinv
              rcases Decidable.em (j < lr) with hkr | hkr
              all_goals first
                | (obtain ⟨b2, off2, x, e2, hx, x0, x1⟩ := rep_at HB.out.2.2.2.2.2 HI.out.2 hkr
                   subst e2
                   obtain ⟨y, HY⟩ : ∃ y : Nat, Hid (1 ≤ y ∧ y ≤ 4096 ∧ x % 4096 + 1 = y) := ⟨(x % 4096 + 1).toNat, by omega, by omega, by omega⟩
                   go_wp2_with (go_at_call 4; fail)
                   refine (rep_any' a l c y _ bs wr HH.out hl4 HY.out.2.2 HY.out.1 HY.out.2.1).mono ?_)
                | (go_wp2_with (go_at_call 4; fail)
                   refine (rep_any' a l c 1 _ bs wr HH.out hl4 rfl (Nat.le_refl _) (by decide)).mono ?_)
              all_goals
                rintro e w1 ⟨p, n, cp, ys, rfl, en, hn, H1⟩
                clear en
                have hcv := conv_src w1 p n cp ys H1.out.1
                have HV : Hid (Inv w w1 k ss g lo co) := HB.out.2.rep H1.out.2.2
                have hro := HV.out.1.room
                obtain ⟨q0, p0, hat⟩ := HV.out.1.at
                have hc1 := hat.c1
                clear hat
                go_wp2_with (first
                  | (go_at_call 5; refine (len5 w.heap.size p0 lo co w1 hc1).mono ?_; rintro e w2 ⟨rfl, e2⟩; obtain rfl := e2.symm)
                  | (go_at_call 6; refine (cap6 w.heap.size p0 lo co w1 hc1).mono ?_; rintro e w2 ⟨rfl, e2⟩; obtain rfl := e2.symm)
                  | (go_at_call 7; fail))
                refine (text7_st w.heap.size lo co n cp g p ys w1 HV.out.1 H1.out.1 hn (fun h0 ad e => by have h1 := H1.out.2.1 h0 ad e; have h2 := HB.out.2.1.lt; omega)).mono ?_
                rintro e w2 ⟨rfl, g', l', c', t1, t2, t3, t4⟩
                have HW : Hid (Inv w w2 k ss g' l' c') := HV.out.text t1 t2 t3
                have HT : Hid (Rel n lo co l' c') := t4
                have hro2 := t1.room
                obtain ⟨q1, p1, hat1⟩ := t1.at
                have hc2 := hat1.c1
                clear hat1 hc1 t1 t2 t3 t4
                obtain ⟨wA, wB, HA1, HA2, HA⟩ : ∃ wA wB, Hid _ ∧ Hid _ ∧ Hid _ := HW.out.app HB.out.1 hjk ⟨ys.toArray⟩
                have HC : Hid (n = 0 ∨ (16384 < n) ∨ (0 < n ∧ n ≤ 16384 ∧ lo + n ≤ co) ∨ (0 < n ∧ n ≤ 16384 ∧ co < lo + n)) := by unfold Hid; omega
                rcases HC.out with hn0 | hbig | ⟨hn0, hn1, hfit⟩ | ⟨hn0, hn1, hfit⟩
                · obtain ⟨rfl, rfl⟩ := HT.out.1 (.inl hn0)
                  subst hn0
                  clear HC
                  go_wp2_with (first
                    | (go_at_call 5; refine (len5 w.heap.size p1 _ _ w2 hc2).mono ?_; rintro e w3 ⟨rfl, e2⟩; obtain rfl := e2.symm)
                    | (go_at_call 6; refine (cap6 w.heap.size p1 _ _ w2 hc2).mono ?_; rintro e w3 ⟨rfl, e2⟩; obtain rfl := e2.symm)
                    | (at_builtin; refine Lib.wpList_append_run _ rfl (.tmp 167) (.tmp 169) 32 32 rfl _ _ rfl rfl _ _ HA1.out ?_)
                    | (at_builtin; refine Lib.wpList_append_run _ rfl (.tmp 171) (.tmp 173) 32 32 rfl _ _ rfl rfl _ _ HA2.out ?_))
                  go_roundw
                  case rel => exact ⟨j + 1, ss ++ [ByteArray.mk ys.toArray], g', l', c', by go_num, by omega, by simp [HB.out.1], rfl, rfl, HA.out⟩
                  case measure => simp [intOf]; omega
                · obtain ⟨rfl, rfl⟩ := HT.out.1 (.inr hbig)
                  have hn2 : ((n : Int) == 0) = false := by rw [beq_eq_false_iff_ne]; omega
                  clear HC
                  go_wp2_with (first
                    | (go_at_call 5; refine (len5 w.heap.size p1 _ _ w2 hc2).mono ?_; rintro e w3 ⟨rfl, e2⟩; obtain rfl := e2.symm)
                    | (go_at_call 6; refine (cap6 w.heap.size p1 _ _ w2 hc2).mono ?_; rintro e w3 ⟨rfl, e2⟩; obtain rfl := e2.symm)
                    | (at_builtin; refine Lib.wpList_append_run _ rfl (.tmp 167) (.tmp 169) 32 32 rfl _ _ rfl rfl _ _ HA1.out ?_)
                    | (at_builtin; refine Lib.wpList_append_run _ rfl (.tmp 171) (.tmp 173) 32 32 rfl _ _ rfl rfl _ _ HA2.out ?_))
                  go_roundw
                  case rel => exact ⟨j + 1, ss ++ [ByteArray.mk ys.toArray], g', l', c', by go_num, by omega, by simp [HB.out.1], rfl, rfl, HA.out⟩
                  case measure => simp [intOf]; omega
                · obtain ⟨el, rfl⟩ := (HT.out.2 hn0 hn1).1 hfit
                  obtain ⟨hn2, hn3, hw1, hw2, hw3⟩ := case3 lo n c' l' el hfit hro.2 hn0 hn1
                  have HE : Hid ((l' : Int) = (lo : Int) + n) := by unfold Hid; rw [el]; exact Int.natCast_add lo n
                  clear HC el hn0 hn1 hfit
                  go_wp2_with (first
                    | (go_at_call 5; refine (len5 w.heap.size p1 _ _ w2 hc2).mono ?_; rintro e w3 ⟨rfl, e2⟩; obtain rfl := e2.symm)
                    | (go_at_call 6; refine (cap6 w.heap.size p1 _ _ w2 hc2).mono ?_; rintro e w3 ⟨rfl, e2⟩; obtain rfl := e2.symm)
                    | (at_builtin; refine Lib.wpList_append_run _ rfl (.tmp 167) (.tmp 169) 32 32 rfl _ _ rfl rfl _ _ HA1.out ?_)
                    | (at_builtin; refine Lib.wpList_append_run _ rfl (.tmp 171) (.tmp 173) 32 32 rfl _ _ rfl rfl _ _ HA2.out ?_))
                  go_roundw
                  case rel => exact ⟨j + 1, ss ++ [ByteArray.mk ys.toArray], g', l', c', by go_num, by omega, by simp [HB.out.1], rfl, rfl, HA.out⟩
                  case measure => simp [intOf]; omega
                · obtain ⟨e1, k1, k2, k3⟩ := (HT.out.2 hn0 hn1).2 (by omega)
                  subst e1
                  have hn2 : ((l' : Int) == 0) = false := by rw [beq_eq_false_iff_ne]; omega
                  have hn3 : ¬ (16384 < (l' : Int)) := by omega
                  have hw1 : wrap64 ((co : Int) - (lo : Int)) = (co : Int) - lo := wrap_sub co lo (by omega) (by omega)
                  have hw3 : ¬ ((l' : Int) ≤ (co : Int) - lo) := by omega
                  obtain ⟨d, hd⟩ : ∃ d, wrap64 (2 * (co : Int)) = d := ⟨_, rfl⟩
                  rw [hd] at k3
                  clear HC HT
                  by_cases hd6 : 65536 < d
                  · obtain ⟨r, HM⟩ : ∃ r, Hid (max (65536 : Int) (max 4096 (l' : Int)) = r) := ⟨_, rfl⟩
                    have hcr : r ≤ (c' : Int) := by have := HM.out; omega
                    clear k1 k2 k3 hn0 hn1 hfit
                    go_wp2_with (first
                      | (go_at_call 5; refine (len5 w.heap.size p1 _ _ w2 hc2).mono ?_; rintro e w3 ⟨rfl, e2⟩; obtain rfl := e2.symm)
                      | (go_at_call 6; refine (cap6 w.heap.size p1 _ _ w2 hc2).mono ?_; rintro e w3 ⟨rfl, e2⟩; obtain rfl := e2.symm)
                      | (go_at_call 8; refine (max8 _ _ _ r HM.out w2).mono ?_; rintro e w3 ⟨rfl, e2⟩; obtain rfl := e2.symm)
                      | (at_builtin; refine Lib.wpList_append_run _ rfl (.tmp 167) (.tmp 169) 32 32 rfl _ _ rfl rfl _ _ HA1.out ?_)
                      | (at_builtin; refine Lib.wpList_append_run _ rfl (.tmp 171) (.tmp 173) 32 32 rfl _ _ rfl rfl _ _ HA2.out ?_))
                    go_roundw
                    case rel => exact ⟨j + 1, ss ++ [ByteArray.mk ys.toArray], g', l', c', by go_num, by omega, by simp [HB.out.1], rfl, rfl, HA.out⟩
                    case measure => simp [intOf]; omega
                  · obtain ⟨r, HM⟩ : ∃ r, Hid (max (d : Int) (max 4096 (l' : Int)) = r) := ⟨_, rfl⟩
                    have hcr : r ≤ (c' : Int) := by have := HM.out; omega
                    clear k1 k2 k3 hn0 hn1 hfit
                    go_wp2_with (first
                      | (go_at_call 5; refine (len5 w.heap.size p1 _ _ w2 hc2).mono ?_; rintro e w3 ⟨rfl, e2⟩; obtain rfl := e2.symm)
                      | (go_at_call 6; refine (cap6 w.heap.size p1 _ _ w2 hc2).mono ?_; rintro e w3 ⟨rfl, e2⟩; obtain rfl := e2.symm)
                      | (go_at_call 8; refine (max8 _ _ _ r HM.out w2).mono ?_; rintro e w3 ⟨rfl, e2⟩; obtain rfl := e2.symm)
                      | (at_builtin; refine Lib.wpList_append_run _ rfl (.tmp 167) (.tmp 169) 32 32 rfl _ _ rfl rfl _ _ HA1.out ?_)
                      | (at_builtin; refine Lib.wpList_append_run _ rfl (.tmp 171) (.tmp 173) 32 32 rfl _ _ rfl rfl _ _ HA2.out ?_))
                    go_roundw
                    case rel => exact ⟨j + 1, ss ++ [ByteArray.mk ys.toArray], g', l', c', by go_num, by omega, by simp [HB.out.1], rfl, rfl, HA.out⟩
                    case measure => simp [intOf]; omega
            · obtain rfl : j = k := by omega
              have HB : Hid (ss.length = j ∧ StrRow wr (w.heap.size + 1) j ss ∧ StrRow wr (w.heap.size + 2) j ss ∧ Below w.heap.size w wr) := ⟨hss, hinv.2.2⟩
              clear hss hinv
              go_wp2
              obtain ⟨wo, rfl⟩ : ∃ wo : World, wo = wr := ⟨_, rfl⟩
              go_loopw [178] (fun i wr => ∃ m : Nat, i = .int .i64 m ∧ m ≤ j ∧ StrRow wr (w.heap.size + 1) j ss ∧ StrRow wr (w.heap.size + 2) j ss ∧ Below w.heap.size w wr) (fun i _ => j - (intOf i).toNat)
              case atStart => exact ⟨0, rfl, Nat.zero_le _, HB.out.2⟩
              case round =>
                obtain ⟨m, rfl, hm, hr⟩ := hrel
                by_cases hmj : m < j
                · have c1 := hr.1.get m (by rw [HB.out.1]; exact hmj)
                  have c2 := hr.2.1.get m (by rw [HB.out.1]; exact hmj)
                  generalize ss[m]'(by rw [HB.out.1]; exact hmj) = s at c1 c2
                  have HR : Hid (StrRow wr (w.heap.size + 1) j ss ∧ StrRow wr (w.heap.size + 2) j ss ∧ Below w.heap.size w wr) := hr
                  clear hr
                  go_wp2
                  go_quiet (fail)
                  go_wp2
                  go_roundw
                  case rel => exact ⟨m + 1, by go_num, by omega, HR.out.1, HR.out.2.1, ⟨HR.out.2.2.1, HR.out.2.2.2, HR.out.2.2.3, HR.out.2.2.4, HR.out.2.2.5⟩⟩
                  case measure => simp [intOf]; omega
                · obtain rfl : m = j := by omega
                  go_wp2
                  go_ret
                  exact ⟨rfl, hr.2.2⟩
end Go.Proofs.Ybulkbckm
