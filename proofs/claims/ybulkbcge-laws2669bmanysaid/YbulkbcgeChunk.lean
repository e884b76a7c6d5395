import Derived.Test.YbulkbcgeSearch
import Derived.Deep.RegionWith
import Derived.BigQuiet
import Derived.BigRegion
namespace Go.Proofs.Ybulkbcge
open Go.RowKit
set_option linter.unusedSimpArgs false
set_option linter.unusedVariables false

set_option maxHeartbeats 800000 in
theorem f23_any (g n c bb : Nat) (y v : Int) (d : Bool) (bc bd : Nat) (q : Int) (w : World) (h : Tick bc bd d q w) (h0 : 0 ≤ q) (hq : q ≤ 1000000000000) (hn : n ≤ 100000) (hn1 : 0 < n)
    (hb : w.heap[bb]? = some (.cells #[.func (.func 11) #[] #[.pointer (some ⟨bc, 0, none⟩), .pointer (some ⟨bd, 0, none⟩)]] 32 (0, 0)))
    (hz : w.cell? ⟨g, n - 1, none⟩ = some (.int .i64 y)) :
    Calls Yba.prog 23 #[.slice (some ⟨g, 0, none⟩) n c, .int .i64 v, .pointer (some ⟨bb, 0, none⟩)] w fun e w' =>
      e = .returned (.int .i64 (cmpD y v d)) ∧ Tick bc bd d (q + 1) w' ∧ Fr (· = bc) w w' := by
  have c1 := cell_of_one hb
  have HT : Hid (Tick bc bd d q w) := h
  obtain ⟨m, rfl⟩ : ∃ m, n = m + 1 := ⟨n - 1, by omega⟩
  have hz' : w.cell? ⟨g, m, none⟩ = some (.int .i64 y) := by simpa using hz
  have hmm : (m : Int) + 1 - 1 = m := by omega
  have hb1 : (m : Int) < (m : Int) + 1 := by omega
  have hb2 : m < m + 1 := by omega
  have hwr : IntKind.i64.wrap (m : Int) = (m : Int) := by rw [IntKind.wrap_i64]; omega
  clear h hb hz
  go_enter Yba.func23, Yba.ntmps23
  go_wp2_with fail
  go_region_with (go_at_call 11; refine (f11_any _ _ d bc bd q w.drew HT.out.drew (by omega) (by omega)).mono ?_; rintro e w1 ⟨rfl, hT1, hF1⟩)
  all_goals
    go_wp2
    go_ret
    exact ⟨rfl, hT1, hF1.ofDrew⟩
/-- what the chunks' row holds, as seen by the search: the t-th chunk lies in block G t, has L t elements, its last is Y t -/
structure Sees (w : World) (ga N bc : Nat) (G L C : Nat → Nat) (Y : Nat → Int) : Prop where
  cell : ∀ t, t < N → w.cell? ⟨ga, t, none⟩ = some (.slice (some ⟨G t, 0, none⟩) (L t) (C t))
  last : ∀ t, t < N → w.cell? ⟨G t, L t - 1, none⟩ = some (.int .i64 (Y t))
  pos : ∀ t, t < N → 0 < L t ∧ L t ≤ 100000
  neA : ga ≠ bc
  neG : ∀ t, t < N → G t ≠ bc

theorem Sees.kept {w w' : World} {ga N bc : Nat} {G L C : Nat → Nat} {Y : Nat → Int} (h : Sees w ga N bc G L C Y) (f : Fr (· = bc) w w') : Sees w' ga N bc G L C Y :=
  ⟨fun t ht => by rw [f.cell (p := ⟨ga, t, none⟩) (World.block_lt_of_cell? w _ (h.cell t ht)) h.neA]; exact h.cell t ht,
   fun t ht => by rw [f.cell (p := ⟨G t, L t - 1, none⟩) (World.block_lt_of_cell? w _ (h.last t ht)) (h.neG t ht)]; exact h.last t ht, h.pos, h.neA, h.neG⟩

set_option maxHeartbeats 800000 in
theorem bs22_any (ga n c bb : Nat) (G L C : Nat → Nat) (Y : Nat → Int) (v : Int) (d : Bool) (bc bd : Nat) (q : Int) (w : World) (h : Tick bc bd d q w) (h0 : 0 ≤ q) (hq : q ≤ 100000000000) (hn : n ≤ 100000)
    (hb : w.heap[bb]? = some (.cells #[.func (.func 11) #[] #[.pointer (some ⟨bc, 0, none⟩), .pointer (some ⟨bd, 0, none⟩)]] 32 (0, 0))) (hbb : bb ≠ bc)
    (hz : Sees w ga n bc G L C Y) (hs : ∀ s t, s ≤ t → t < n → kd d (Y s) ≤ kd d (Y t)) :
    Calls Yba.prog 22 #[.slice (some ⟨ga, 0, none⟩) n c, .int .i64 v, .func (.func 23) #[] #[.pointer (some ⟨bb, 0, none⟩)]] w fun e w' =>
      ∃ (i : Nat) (f : Bool) (q' : Int), e = .returned (.tuple #[.int .i64 i, .bool f]) ∧ i ≤ n ∧ (∀ t, t < i → kd d (Y t) < kd d v) ∧ (∀ t, i ≤ t → t < n → kd d v ≤ kd d (Y t)) ∧
        Tick bc bd d q' w' ∧ q ≤ q' ∧ q' ≤ q + n + 1 ∧ (0 < n → q < q') ∧ Fr (· = bc) w w' := by
  go_enter Yba.func22, Yba.ntmps22
  go_wp2_with fail
  go_loopw [9, 10] (fun i j wr => ∃ (a b : Nat) (p : Int), i = .int .i64 a ∧ j = .int .i64 b ∧ a ≤ b ∧ b ≤ n ∧ (∀ t, t < a → kd d (Y t) < kd d v) ∧ (∀ t, b ≤ t → t < n → kd d v ≤ kd d (Y t)) ∧
      Tick bc bd d p wr ∧ q ≤ p ∧ p ≤ q + n - (b - a) ∧ (b - a < n → q < p) ∧ Fr (· = bc) w wr) (fun i j _ => (intOf j - intOf i).toNat)
  case atStart => exact ⟨0, n, q, rfl, rfl, Nat.zero_le _, Nat.le_refl _, by omega, by omega, h, by omega, by omega, by omega, Fr.refl _ _⟩
  case round =>
    obtain ⟨a, b, p, rfl, rfl, hab, hbn, hlo, hhi, hT, hp1, hp2, hp3, hF⟩ := hrel
    have HZ : Hid (Sees wr ga n bc G L C Y) := hz.kept hF
    have HB : Hid (wr.heap[bb]? = some (.cells #[.func (.func 11) #[] #[.pointer (some ⟨bc, 0, none⟩), .pointer (some ⟨bd, 0, none⟩)]] 32 (0, 0))) := by
      show _ = _
      rw [hF.block bb (lt_of_block hb) hbb]; exact hb
    have HS : Hid (∀ s t, s ≤ t → t < n → kd d (Y s) ≤ kd d (Y t)) := hs
    have HLO : Hid (∀ t, t < a → kd d (Y t) < kd d v) := hlo
    have HHI : Hid (∀ t, b ≤ t → t < n → kd d v ≤ kd d (Y t)) := hhi
    have HT : Hid (Tick bc bd d p wr) := hT
    have HF : Hid (Fr (· = bc) w wr) := hF
    clear hz hb hs hlo hhi hT hF h
    by_cases hlt : a < b
    · obtain ⟨m, hm⟩ : ∃ m, m = (a + b) / 2 := ⟨_, rfl⟩
      obtain ⟨y, hy⟩ : ∃ y, y = Y m := ⟨_, rfl⟩
      obtain ⟨gm, hgm⟩ : ∃ gm, gm = G m := ⟨_, rfl⟩
      obtain ⟨lm, hlm⟩ : ∃ lm, lm = L m := ⟨_, rfl⟩
      obtain ⟨cm, hcm⟩ : ∃ cm, cm = C m := ⟨_, rfl⟩
      have hcell : wr.cell? ⟨ga, (a + b) / 2, none⟩ = some (.slice (some ⟨gm, 0, none⟩) lm cm) := by rw [HZ.out.cell _ (by omega), hgm, hlm, hcm, hm]
      have HL : Hid (wr.cell? ⟨gm, lm - 1, none⟩ = some (.int .i64 y)) := by show _ = _; rw [hgm, hlm, hy]; exact HZ.out.last _ (by omega)
      have hl : 0 < lm ∧ lm ≤ 100000 := by rw [hlm]; exact HZ.out.pos m (by omega)
      obtain ⟨hl1, hl2⟩ := hl
      have HM : Hid (m = (a + b) / 2 ∧ y = Y m) := ⟨hm, hy⟩
      clear hm hy hgm hlm hcm
      by_cases hc : cmpD y v d < 0
      · go_wp2_with (go_at_call 23; refine (f23_any _ _ _ _ y _ d bc bd p _ HT.out (by omega) (by omega) hl2 hl1 HB.out HL.out).mono ?_; rintro e w1 ⟨rfl, hT1, hF1⟩)
        have HT1 : Hid (Tick bc bd d (p + 1) w1) := hT1
        have HF1 : Hid (Fr (· = bc) wr w1) := hF1
        clear hT1 hF1
        go_wp2
        go_roundw
        case rel =>
          obtain ⟨hm, hy⟩ := HM.out
          refine ⟨m + 1, b, p + 1, by subst hm; go_num, rfl, by omega, hbn, fun t ht => ?_, HHI.out, HT1.out, by omega, by omega, by omega, HF.out.trans HF1.out (fun _ _ e => e)⟩
          have := (cmpD_neg y v d).1 hc
          have := HS.out t m (by omega) (by omega)
          rw [hy] at *
          omega
        case measure => have := HM.out.1; simp [intOf]; omega
      · go_wp2_with (go_at_call 23; refine (f23_any _ _ _ _ y _ d bc bd p _ HT.out (by omega) (by omega) hl2 hl1 HB.out HL.out).mono ?_; rintro e w1 ⟨rfl, hT1, hF1⟩)
        have HT1 : Hid (Tick bc bd d (p + 1) w1) := hT1
        have HF1 : Hid (Fr (· = bc) wr w1) := hF1
        clear hT1 hF1
        go_wp2
        go_roundw
        case rel =>
          obtain ⟨hm, hy⟩ := HM.out
          refine ⟨a, m, p + 1, rfl, by subst hm; go_num, by omega, by omega, HLO.out, fun t ht htn => ?_, HT1.out, by omega, by omega, by omega, HF.out.trans HF1.out (fun _ _ e => e)⟩
          have := mt (cmpD_neg y v d).2 (by omega)
          have := HS.out m t ht htn
          rw [hy] at *
          omega
        case measure => have := HM.out.1; simp [intOf]; omega
    · obtain rfl : a = b := by omega
      by_cases han : a < n
      · obtain ⟨y, hy⟩ : ∃ y, y = Y a := ⟨_, rfl⟩
        obtain ⟨gm, hgm⟩ : ∃ gm, gm = G a := ⟨_, rfl⟩
        obtain ⟨lm, hlm⟩ : ∃ lm, lm = L a := ⟨_, rfl⟩
        obtain ⟨cm, hcm⟩ : ∃ cm, cm = C a := ⟨_, rfl⟩
        have hcell : wr.cell? ⟨ga, a, none⟩ = some (.slice (some ⟨gm, 0, none⟩) lm cm) := by rw [HZ.out.cell _ (by omega), hgm, hlm, hcm]
        have HL : Hid (wr.cell? ⟨gm, lm - 1, none⟩ = some (.int .i64 y)) := by show _ = _; rw [hgm, hlm, hy]; exact HZ.out.last _ (by omega)
        have hl : 0 < lm ∧ lm ≤ 100000 := by rw [hlm]; exact HZ.out.pos a (by omega)
        obtain ⟨hl1, hl2⟩ := hl
        clear hy hgm hlm hcm
        go_wp2_with (go_at_call 23; refine (f23_any _ _ _ _ y _ d bc bd p _ HT.out (by omega) (by omega) hl2 hl1 HB.out HL.out).mono ?_; rintro e w1 ⟨rfl, hT1, hF1⟩)
        have HT1 : Hid (Tick bc bd d (p + 1) w1) := hT1
        have HF1 : Hid (Fr (· = bc) wr w1) := hF1
        clear hT1 hF1
        go_wp2
        go_ret2
        exact ⟨a, _, p + 1, rfl, by omega, HLO.out, HHI.out, HT1.out, by omega, by omega, by omega, HF.out.trans HF1.out (fun _ _ e => e)⟩
      · have hd : decide ((a : Int) < (n : Int)) = false := by simp; omega
        go_wp2
        go_ret2
        exact ⟨a, _, p, rfl, by omega, HLO.out, HHI.out, HT.out, by omega, by omega, by omega, HF.out⟩

set_option maxHeartbeats 800000 in
/-- searchChunks -/
theorem sc17_any (ga n c : Nat) (G L C : Nat → Nat) (Y : Nat → Int) (v : Int) (d : Bool) (bc bd : Nat) (q : Int) (w : World) (h : Tick bc bd d q w) (h0 : 0 ≤ q) (hq : q ≤ 100000000000) (hn : n ≤ 100000)
    (hz : Sees w ga n bc G L C Y) (hs : ∀ s t, s ≤ t → t < n → kd d (Y s) ≤ kd d (Y t)) :
    Calls Yba.prog 17 #[.slice (some ⟨ga, 0, none⟩) n c, .int .i64 v, .func (.func 11) #[] #[.pointer (some ⟨bc, 0, none⟩), .pointer (some ⟨bd, 0, none⟩)]] w fun e w' =>
      ∃ (i : Nat) (q' : Int), e = .returned (.int .i64 i) ∧ i ≤ n ∧ (∀ t, t < i → kd d (Y t) < kd d v) ∧ (∀ t, i ≤ t → t < n → kd d v ≤ kd d (Y t)) ∧
        Tick bc bd d q' w' ∧ q ≤ q' ∧ q' ≤ q + n + 1 ∧ (0 < n → q < q') ∧ Fr (· = bc) w w' := by
  have hbw := lt_of_block h.calls
  obtain ⟨O, hO⟩ : ∃ O : Obj, O = .cells #[.func (.func 11) #[] #[.pointer (some ⟨bc, 0, none⟩), .pointer (some ⟨bd, 0, none⟩)]] 32 (0, 0) := ⟨_, rfl⟩
  have hfr : Fr (· = bc) w (w.alloc O) := (Fr.refl _ w).alloc O
  have hT' : Tick bc bd d q (w.alloc O) := h.kept (S := fun _ => False) ((Fr.refl _ w).alloc O) (fun e => e) (fun e => e)
  have hz' := hz.kept hfr
  have hne : w.heap.size ≠ bc := by omega
  have hbx : (w.alloc O).heap[w.heap.size]? = some O := heap_alloc_new w O
  have HA : Hid (Tick bc bd d q (w.alloc O) ∧ Sees (w.alloc O) ga n bc G L C Y ∧ Fr (· = bc) w (w.alloc O) ∧ (w.alloc O).heap[w.heap.size]? = some O ∧ ∀ s t, s ≤ t → t < n → kd d (Y s) ≤ kd d (Y t)) := ⟨hT', hz', hfr, hbx, hs⟩
  subst hO
  clear h hz hfr hT' hz' hbx hs
  go_enter Yba.func17, Yba.ntmps17
  go_wp2_with (go_at_call 22; refine (bs22_any ga n c _ G L C Y v d bc bd q _ HA.out.1 h0 hq hn HA.out.2.2.2.1 hne HA.out.2.1 HA.out.2.2.2.2).mono ?_; rintro e w1 ⟨i, f, q', rfl, hi, hlo, hhi, hT1, hq1, hq2, hq3, hF1⟩)
  have HR : Hid (i ≤ n ∧ (∀ t, t < i → kd d (Y t) < kd d v) ∧ (∀ t, i ≤ t → t < n → kd d v ≤ kd d (Y t)) ∧ Tick bc bd d q' w1 ∧ q ≤ q' ∧ q' ≤ q + n + 1 ∧ (0 < n → q < q') ∧ Fr (· = bc) w w1) :=
    ⟨hi, hlo, hhi, hT1, hq1, hq2, hq3, HA.out.2.2.1.trans hF1 (fun _ _ e => e)⟩
  clear hi hlo hhi hT1 hq1 hq2 hq3 hF1 HA
  go_wp2
  go_ret
  exact ⟨i, q', rfl, HR.out⟩
end Go.Proofs.Ybulkbcge
