import Derived.Test.YbulkbckmA1
import Derived.Lib.MakeNoZero
import Derived.Lib.UnsafeStr
import Derived.Deep.RegionLaw
namespace Go.Proofs.Ybulkbckm
open Go.RowKit
set_option linter.unusedSimpArgs false
set_option linter.unusedVariables false

theorem call10 (args : Array Value) (w : World) : (callFunc 10 args).run Yba.prog w = ((Extern.BytealgMakeNoZero.makeNoZero #[3] #[24] args).run Yba.prog w).andThen fun v w' => .ok (.value v) w' :=
  run_callFunc_extern Yba.func10 (by kernel_rfl) (by kernel_rfl) (by kernel_rfl) (by kernel_rfl) args w
theorem size5 : (Yba.prog.info? 5).map (·.size) = some 1 := by kernel_rfl

/-- a row that holds bytes: its block, its room, the bytes at its head -/
def ByteRow (w : World) (g n : Nat) (ys : List UInt8) : Prop := ∃ cur : List Value, w.heap[g]? = some (.cells cur.toArray 5 (0, 0)) ∧ ys.length = n ∧ n ≤ cur.length ∧ cur.take n = Lib.byteCells ys

set_option maxHeartbeats 1000000 in
theorem rep4_nil (a : Option Addr) (c k : Nat) (w : World) (h1 : 1 ≤ k) (h2 : k ≤ 4096) :
    Calls Yba.prog 4 #[.slice a 0 c, .int .i64 k] w fun e w' => (∃ p cap, e = .returned (.slice p 0 cap)) ∧ Below w.heap.size w w' := by
  go_enter Yba.func4, Yba.ntmps4
  go_wp2_with (go_at_call 9; refine (mul9 0 k (by omega) h2 _).mono ?_; rintro e w' ⟨rfl, hw⟩; cases hw)
  go_ret
  exact ⟨⟨_, _, rfl⟩, (Below.refl _ w).alloc (Nat.le_refl _) _⟩

theorem byteCells_one (bs : List UInt8) : ∀ v ∈ Lib.byteCells bs, v.oneCell' = true := by
  intro v hv
  simp only [Lib.byteCells, List.mem_map] at hv
  obtain ⟨b, _, rfl⟩ := hv
  rfl

/-- the loop's row: its first m cells are bytes -/
def RepInv (w wr : World) (n m : Nat) : Prop := ∃ (cur : List Value) (ys : List UInt8), wr.heap[w.heap.size]? = some (.cells cur.toArray 5 (0, 0)) ∧ ys.length = m ∧ n ≤ cur.length ∧ cur.take m = Lib.byteCells ys ∧ Below w.heap.size w wr

theorem rep_start {w w1 : World} {cs : Array Value} {bs : List UInt8} {l n : Nat} (hl : bs.length = l) (hf : 0 + (Lib.byteCells bs).length ≤ cs.toList.length) (hn : n ≤ cs.size)
    (hg : w1.heap[w.heap.size]? = some (.cells (splice cs.toList 0 (Lib.byteCells bs)).toArray 5 (0, 0))) (hw : ((w.alloc (.cells cs 5)).drew.drew).grownBy w1 (some w.heap.size)) : RepInv w w1 n l := by
  refine ⟨_, bs, hg, hl, ?_, ?_, ?_⟩
  · rw [length_splice _ _ _ hf]; simpa using hn
  · unfold splice
    rw [List.take_zero, List.nil_append, List.take_append_of_le_length (by rw [Lib.byteCells_length]; omega), List.take_of_length_le (by rw [Lib.byteCells_length]; omega)]
  · have hb : Below w.heap.size w ((w.alloc (.cells cs 5)).drew.drew) := ((Below.refl _ w).alloc (Nat.le_refl _) _).drew.drew
    exact hb.trans ⟨hw.os, hw.tape, hw.output, hw.size, fun k hk => hw.block k (by simp; omega) (by simp; omega)⟩

theorem rep_src {w wr : World} {n m q : Nat} (h : RepInv w wr n m) (hq : q ≤ m) (hlt : m < n) : ∃ (cur : List Value) (ys : List UInt8), Hid (wr.heap[w.heap.size]? = some (.cells cur.toArray 5 (0, 0)) ∧
    ((Lib.byteCells ys).take (min q (n - m))).length = Nat.min q (n - m) ∧ (∀ j v, ((Lib.byteCells ys).take (min q (n - m)))[j]? = some v → wr.cell? ((⟨w.heap.size, 0, none⟩ : Addr).add j) = some v) ∧
    m + ((Lib.byteCells ys).take (min q (n - m))).length ≤ cur.length ∧ (∀ v ∈ (Lib.byteCells ys).take (min q (n - m)), v.oneCell' = true) ∧ ys.length = m ∧ n ≤ cur.length ∧ cur.take m = Lib.byteCells ys ∧ Below w.heap.size w wr) := by
  obtain ⟨cur, ys, r1, r2, r3, r4, r5⟩ := h
  have hl : ((Lib.byteCells ys).take (min q (n - m))).length = min q (n - m) := by rw [List.length_take, Lib.byteCells_length, r2]; omega
  refine ⟨cur, ys, r1, hl, fun j v hj => ?_, by rw [hl]; omega, fun v hv => byteCells_one ys v (List.mem_of_mem_take hv), r2, r3, r4, r5⟩
  have hjl : j < min q (n - m) := by have := (List.getElem?_eq_some_iff.1 hj).1; omega
  rw [List.getElem?_take_of_lt hjl, ← r4, List.getElem?_take_of_lt (by omega)] at hj
  have hadd : (⟨w.heap.size, 0, none⟩ : Addr).add j = ⟨w.heap.size, j, none⟩ := by unfold Addr.add; split <;> simp_all
  rw [hadd]
  simp only [World.cell?, r1]
  simpa using hj

theorem rep_step {w wr w2 : World} {cur : List Value} {ys : List UInt8} {n m r : Nat} (h2 : ys.length = m) (h3 : n ≤ cur.length) (h4 : cur.take m = Lib.byteCells ys) (h5 : Below w.heap.size w wr) (hr : r ≤ m) (hrn : m + r ≤ n)
    (hg : w2.heap[w.heap.size]? = some (.cells (splice cur m ((Lib.byteCells ys).take r)).toArray 5 (0, 0))) (hw : wr.drew.grownBy w2 (some w.heap.size)) (hsz : w.heap.size < wr.heap.size) : RepInv w w2 n (m + r) := by
  have hl : ((Lib.byteCells ys).take r).length = r := by rw [List.length_take, Lib.byteCells_length, h2]; omega
  refine ⟨_, ys ++ ys.take r, hg, by simp [h2]; omega, by rw [length_splice _ _ _ (by rw [hl]; omega)]; exact h3, ?_, ?_⟩
  · unfold splice
    rw [h4, ← List.append_assoc, List.take_append_of_le_length (by simp [Lib.byteCells_length, h2]; omega), List.take_of_length_le (by simp [Lib.byteCells_length, h2]; omega)]
    simp [Lib.byteCells, List.map_take]
  · exact h5.trans ⟨hw.os, hw.tape, hw.output, hw.size, fun k hk => hw.block k (by have := h5.size; exact Nat.lt_of_lt_of_le hk this) (by simp; omega)⟩

set_option maxHeartbeats 1000000 in
theorem rep4 (ad : Addr) (l c k : Nat) (bs : List UInt8) (w : World) (hl : bs.length = l) (l0 : 0 < l) (l1 : l ≤ 4096) (h1 : 1 ≤ k) (h2 : k ≤ 4096) (hc : ∀ j v, (Lib.byteCells bs)[j]? = some v → w.cell? (ad.add j) = some v) :
    Calls Yba.prog 4 #[.slice (some ad) l c, .int .i64 k] w fun e w' => ∃ g cap ys, e = .returned (.slice (some ⟨g, 0, none⟩) (l * k) cap) ∧ w.heap.size ≤ g ∧ ByteRow w' g (l * k) ys ∧ Below w.heap.size w w' := by
  have hn0 : 1 ≤ l * k := Nat.mul_le_mul l0 h1
  have hn1 : l * k ≤ 16777216 := Nat.le_trans (Nat.mul_le_mul l1 h2) (by decide)
  have hnl : l ≤ l * k := Nat.le_mul_of_pos_right l h1
  obtain ⟨n, hn⟩ : ∃ n, n = l * k := ⟨_, rfl⟩
  rw [← hn] at hn0 hn1 hnl ⊢
  obtain ⟨cs, hr, hr1, hr2⟩ := Lib.run_makeNoZero (P := Yba.prog) w #[3] 24 5 Yba.underlying24 n (by omega)
  have hm := mul9 l k l1 h2
  rw [← hn] at hm
  have HC : Hid (∀ j v, (Lib.byteCells bs)[j]? = some v → w.cell? (ad.add j) = some v) := hc
  have c10 := call10
  clear hc
  have HN : Hid (n = l * k) := hn
  clear hn
  obtain ⟨cm, hcm, hcp, hcu⟩ : ∃ cm : Nat, (8192 / (l : Int)) * (l : Int) = (cm : Int) ∧ 0 < cm ∧ cm ≤ 8192 := by
    refine ⟨8192 / l * l, ?_, Nat.mul_pos (Nat.div_pos (by omega) l0) l0, Nat.div_mul_le_self _ _⟩
    rw [Int.natCast_mul, Int.natCast_ediv]; rfl
  have hcw : wrap64 (cm : Int) = cm := by unfold wrap64; omega
  have hcz : ((cm : Int) == 0) = false := by simp; omega
  have HS : Hid (((w.alloc (.cells cs 5)).drew.drew).heap[w.heap.size]? = some (.cells cs.toList.toArray 5 (0, 0)) ∧ (∀ j v, (Lib.byteCells bs)[j]? = some v → ((w.alloc (.cells cs 5)).drew.drew).cell? (ad.add j) = some v)) := by
    refine ⟨?_, fun j v hj => ?_⟩
    · show (w.alloc (.cells cs 5)).heap[w.heap.size]? = _
      rw [heap_alloc_new]
    · have h := HC.out j v hj
      have hlt := World.block_lt_of_cell? w _ h
      show (w.alloc (.cells cs 5)).cell? (ad.add j) = some v
      rw [World.cell?_of_block (Below.heap_alloc w _ _ hlt)]; exact h
  have hbl : (Lib.byteCells bs).length = l := by rw [Lib.byteCells_length, hl]
  have HL : Hid ((Lib.byteCells bs).length = Nat.min l n ∧ 0 + (Lib.byteCells bs).length ≤ cs.toList.length ∧ (∀ v ∈ Lib.byteCells bs, v.oneCell' = true)) := by
    refine ⟨?_, ?_, byteCells_one bs⟩
    · rw [Lib.byteCells_length, hl]; simp only [Nat.min_def]; split <;> omega
    · rw [Lib.byteCells_length, hl]; simp; omega
  by_cases hbig : 8192 < n
  · go_enter Yba.func4, Yba.ntmps4
    go_wp2_with (first
      | (go_at_call 9; refine (hm _).mono ?_; rintro e w' ⟨rfl, hw⟩; cases hw)
      | (with_reducible refine wpList_copy_r (.tmp 58) (.tmp 59) 24 24 5 Yba.underlying24 size5 w.heap.size 0 n n ad l c ?_ cs.toList 5 HS.out.1 (Lib.byteCells bs) HL.out.1 HS.out.2 HL.out.2.1 HL.out.2.2 ?_; exact ⟨rfl, rfl, rfl, rfl⟩; intro w1 hg1 hw1))
    have HB : Hid (RepInv w w1 n l) := rep_start hl HL.out.2.1 hr1 hg1.out hw1.out
    clear hg1 hw1
    go_loopw [10] (fun bp wr => ∃ m : Nat, bp = .int .i64 m ∧ 0 < m ∧ m ≤ n ∧ RepInv w wr n m) (fun bp _ => n - (intOf bp).toNat)
    case atStart => exact ⟨l, rfl, l0, hnl, HB.out⟩
    case round =>
      obtain ⟨m, rfl, hm0, hmn, hR⟩ := hrel
      by_cases hlt : m < n
      · by_cases hcl : cm < m
        · have HY := rep_src (q := cm) (n := n) hR (by omega) hlt
          obtain ⟨cur, ys, HY⟩ := HY
          have hqn : cm ≤ n := by omega
          have hnm : ¬ n = m := by omega
          obtain ⟨r, HL2, hr0, hrm, hrn⟩ : ∃ r : Nat, Hid (((Lib.byteCells ys).take (min cm (n - m))).length = r ∧ min cm (n - m) = r) ∧ 0 < r ∧ r ≤ m ∧ m + r ≤ n := ⟨min cm (n - m), ⟨by rw [HY.out.2.1], rfl⟩, by omega, by omega, by omega⟩
          have hsum : IntKind.i64.wrap ((m : Int) + (r : Int)) = (m : Int) + (r : Int) := by rw [IntKind.wrap_i64]; omega
          clear hR
          go_wp2
          go_region_law (refine step_copy_d rfl (some 74) rfl _ _ 24 24 rfl 5 Yba.underlying24 size5 w.heap.size m (n - m) (n - m) ⟨w.heap.size, 0, none⟩ cm n (by simp [Act.eval, Act.put, hnm]) (by simp [Act.eval, Act.put]) cur 5 HY.out.1 ((Lib.byteCells ys).take (min cm (n - m))) HY.out.2.1 HY.out.2.2.1 HY.out.2.2.2.1 HY.out.2.2.2.2.1 r HL2.out.1 ?_; intro w2 hg2 hw2)
          have HR2 : Hid (RepInv w w2 n (m + r)) := rep_step (r := r) HY.out.2.2.2.2.2.1 HY.out.2.2.2.2.2.2.1 HY.out.2.2.2.2.2.2.2.1 HY.out.2.2.2.2.2.2.2.2 hrm hrn (by rw [← HL2.out.2]; exact hg2.out) hw2.out (lt_of_block HY.out.1)
          clear HY hg2 hw2
          simp [Act.put, hsum]
          go_wp2
          go_roundw
          case rel => exact ⟨m + r, by go_num, by omega, by omega, HR2.out⟩
          case measure => simp [intOf]; omega
        · have HY := rep_src (q := m) (n := n) hR (by omega) hlt
          obtain ⟨cur, ys, HY⟩ := HY
          have hqn : m ≤ n := by omega
          have hnm : ¬ n = m := by omega
          obtain ⟨r, HL2, hr0, hrm, hrn⟩ : ∃ r : Nat, Hid (((Lib.byteCells ys).take (min m (n - m))).length = r ∧ min m (n - m) = r) ∧ 0 < r ∧ r ≤ m ∧ m + r ≤ n := ⟨min m (n - m), ⟨by rw [HY.out.2.1], rfl⟩, by omega, by omega, by omega⟩
          have hsum : IntKind.i64.wrap ((m : Int) + (r : Int)) = (m : Int) + (r : Int) := by rw [IntKind.wrap_i64]; omega
          clear hR
          go_wp2
          go_region_law (refine step_copy_d rfl (some 74) rfl _ _ 24 24 rfl 5 Yba.underlying24 size5 w.heap.size m (n - m) (n - m) ⟨w.heap.size, 0, none⟩ m n (by simp [Act.eval, Act.put, hnm]) (by simp [Act.eval, Act.put]) cur 5 HY.out.1 ((Lib.byteCells ys).take (min m (n - m))) HY.out.2.1 HY.out.2.2.1 HY.out.2.2.2.1 HY.out.2.2.2.2.1 r HL2.out.1 ?_; intro w2 hg2 hw2)
          have HR2 : Hid (RepInv w w2 n (m + r)) := rep_step (r := r) HY.out.2.2.2.2.2.1 HY.out.2.2.2.2.2.2.1 HY.out.2.2.2.2.2.2.2.1 HY.out.2.2.2.2.2.2.2.2 hrm hrn (by rw [← HL2.out.2]; exact hg2.out) hw2.out (lt_of_block HY.out.1)
          clear HY hg2 hw2
          simp [Act.put, hsum]
          go_wp2
          go_roundw
          case rel => exact ⟨m + r, by go_num, by omega, by omega, HR2.out⟩
          case measure => simp [intOf]; omega
      · obtain rfl : m = n := by omega
        obtain ⟨cur, ys, r1, r2, r3, r4, r5⟩ := hR
        have HR : Hid (ByteRow wr w.heap.size m ys ∧ Below w.heap.size w wr) := ⟨⟨cur, r1, r2, r3, r4⟩, r5⟩
        clear r1 r2 r3 r4 r5
        go_wp2
        go_ret
        exact ⟨_, _, ys, rfl, Nat.le_refl _, HR.out⟩
  · go_enter Yba.func4, Yba.ntmps4
    go_wp2_with (first
      | (go_at_call 9; refine (hm _).mono ?_; rintro e w' ⟨rfl, hw⟩; cases hw)
      | (with_reducible refine wpList_copy_r (.tmp 58) (.tmp 59) 24 24 5 Yba.underlying24 size5 w.heap.size 0 n n ad l c ?_ cs.toList 5 HS.out.1 (Lib.byteCells bs) HL.out.1 HS.out.2 HL.out.2.1 HL.out.2.2 ?_; exact ⟨rfl, rfl, rfl, rfl⟩; intro w1 hg1 hw1))
    have HB : Hid (RepInv w w1 n l) := rep_start hl HL.out.2.1 hr1 hg1.out hw1.out
    clear hg1 hw1
    go_loopw [10] (fun bp wr => ∃ m : Nat, bp = .int .i64 m ∧ 0 < m ∧ m ≤ n ∧ RepInv w wr n m) (fun bp _ => n - (intOf bp).toNat)
    case atStart => exact ⟨l, rfl, l0, hnl, HB.out⟩
    case round =>
      obtain ⟨m, rfl, hm0, hmn, hR⟩ := hrel
      by_cases hlt : m < n
      · have hcl : ¬ n < m := by omega
        have HY := rep_src (q := m) (n := n) hR (by omega) hlt
        obtain ⟨cur, ys, HY⟩ := HY
        have hqn : m ≤ n := by omega
        have hnm : ¬ n = m := by omega
        obtain ⟨r, HL2, hr0, hrm, hrn⟩ : ∃ r : Nat, Hid (((Lib.byteCells ys).take (min m (n - m))).length = r ∧ min m (n - m) = r) ∧ 0 < r ∧ r ≤ m ∧ m + r ≤ n := ⟨min m (n - m), ⟨by rw [HY.out.2.1], rfl⟩, by omega, by omega, by omega⟩
        have hsum : IntKind.i64.wrap ((m : Int) + (r : Int)) = (m : Int) + (r : Int) := by rw [IntKind.wrap_i64]; omega
        clear hR
        go_wp2
        go_region_law (refine step_copy_d rfl (some 74) rfl _ _ 24 24 rfl 5 Yba.underlying24 size5 w.heap.size m (n - m) (n - m) ⟨w.heap.size, 0, none⟩ m n (by simp [Act.eval, Act.put, hnm]) (by simp [Act.eval, Act.put]) cur 5 HY.out.1 ((Lib.byteCells ys).take (min m (n - m))) HY.out.2.1 HY.out.2.2.1 HY.out.2.2.2.1 HY.out.2.2.2.2.1 r HL2.out.1 ?_; intro w2 hg2 hw2)
        have HR2 : Hid (RepInv w w2 n (m + r)) := rep_step (r := r) HY.out.2.2.2.2.2.1 HY.out.2.2.2.2.2.2.1 HY.out.2.2.2.2.2.2.2.1 HY.out.2.2.2.2.2.2.2.2 hrm hrn (by rw [← HL2.out.2]; exact hg2.out) hw2.out (lt_of_block HY.out.1)
        clear HY hg2 hw2
        simp [Act.put, hsum]
        go_wp2
        go_roundw
        case rel => exact ⟨m + r, by go_num, by omega, by omega, HR2.out⟩
        case measure => simp [intOf]; omega
      · obtain rfl : m = n := by omega
        obtain ⟨cur, ys, r1, r2, r3, r4, r5⟩ := hR
        have HR : Hid (ByteRow wr w.heap.size m ys ∧ Below w.heap.size w wr) := ⟨⟨cur, r1, r2, r3, r4⟩, r5⟩
        clear r1 r2 r3 r4 r5
        go_wp2
        go_ret
        exact ⟨_, _, ys, rfl, Nat.le_refl _, HR.out⟩
end Go.Proofs.Ybulkbckm
