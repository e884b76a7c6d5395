import Derived.Test.YbulkbciwB3
import Derived.Test.YbulkbciwB5
namespace Go.Proofs.Ybulkbciw
open Go.RowKit
set_option linter.unusedSimpArgs false
set_option linter.unusedVariables false

/-- how many nodes a tree at most names -/
def flatB (m : Nat) : Nat → Nat
  | 0 => 0
  | d + 1 => m + m * flatB m d
theorem flatMap_le {α : Type} (f : α → List Int) (K : Nat) : (l : List α) → (∀ a ∈ l, (f a).length ≤ K) → (l.flatMap f).length ≤ l.length * K
  | [], _ => by simp
  | a :: l, h => by
    have h1 := flatMap_le f K l (fun b hb => h b (List.mem_cons_of_mem _ hb))
    have h2 := h a (by simp)
    rw [List.flatMap_cons, List.length_append, List.length_cons, Nat.add_mul]
    omega
theorem flat_len {S : Nat → Prop} {m : Nat} {w : World} : (d : Nat) → (vs is : Value) → (t : T d) → Rep S m d w vs is t → (flat d t).length ≤ flatB m d
  | 0, _, _, t, _ => nomatch t
  | d + 1, vs, is, t, h => by
    obtain ⟨pu, cu, px, cx, _, _, l1, l2, _, hx⟩ := h
    show (t.2.1 ++ t.2.2.flatMap (flat d)).length ≤ m + m * flatB m d
    rw [List.length_append]
    have h1 : (t.2.2.flatMap (flat d)).length ≤ t.2.2.length * flatB m d := by
      refine flatMap_le _ _ _ (fun a ha => ?_)
      rcases hx with hx | ⟨b, _, _, hc⟩
      · rw [hx] at ha; simp at ha
      · obtain ⟨i, hi, rfl⟩ := List.getElem_of_mem ha
        obtain ⟨vs', is', _, _, _, hr⟩ := hc i hi
        exact flat_len d vs' is' _ hr
    have h2 : t.2.2.length * flatB m d ≤ m * flatB m d := Nat.mul_le_mul_right _ l2
    omega

set_option maxHeartbeats 1000000 in
set_option maxRecDepth 10000 in
theorem law3 (x : Int) (q : Option Addr) (n c : Nat) (q2 : Option Addr) (n2 c2 : Nat) (pm : Option Addr) (lm cm : Nat) (xn xl : Int) (D : Bool) (w : World) (hu : UB w q n) (hin : Ins 3 w q2 n2) (hum : UB w pm lm)
    (hx : 0 ≤ x) (hx2 : x ≤ 255) (hn : n ≤ 9223372036854775807) (hn2 : n2 ≤ 9223372036854775807) (hlm : lm ≤ 9223372036854775807) (hxn : 0 ≤ xn) (hxn2 : xn ≤ 255) (hxl : 0 ≤ xl) (hxl2 : xl ≤ 255) :
    Calls Yba.prog 3 #[.agg #[.int .u8 x, .slice q n c, .slice q2 n2 c2], .slice pm lm cm, .int .u8 xn, .int .u8 xl, .bool D] w fun e w' => e = .returned (.bool true) ∧ Below w.heap.size w w' := by
  obtain ⟨zn, hzn⟩ : ∃ z : Nat, xn % 8 = z := ⟨(xn % 8).toNat, by omega⟩
  obtain ⟨zl, hzl⟩ : ∃ z : Nat, xl % 40 = z := ⟨(xl % 40).toNat, by omega⟩
  have hzn8 : zn ≤ 7 := by omega
  have hzl4 : zl ≤ 39 := by omega
  obtain ⟨nn, hnn⟩ : ∃ nn : Nat, 1 + zn = nn := ⟨_, rfl⟩
  obtain ⟨L, hL⟩ : ∃ L : Nat, 1 + zl = L := ⟨_, rfl⟩
  have hnn2 : (1 : Int) + (zn : Int) = (nn : Int) := by omega
  have hL2 : (1 : Int) + (zl : Int) = (L : Int) := by omega
  have hU : Hid (UB w q n ∧ Ins 3 w q2 n2 ∧ UB w pm lm) := ⟨hu, hin, hum⟩
  obtain ⟨R3, hR3⟩ : ∃ R3 : Ending → World → Prop, (fun e w' => e = .returned (.bool true) ∧ Below w.heap.size w w') = R3 := ⟨_, rfl⟩
  have HE : Hid (∀ w', Below w.heap.size w w' → R3 (.returned (.bool true)) w') := fun w' h => by rw [← hR3]; exact ⟨rfl, h⟩
  rw [hR3]
  clear hR3 hu hin hum
  obtain ⟨B, hB⟩ : ∃ B, w.heap.size = B := ⟨_, rfl⟩
  obtain ⟨W1, hW1⟩ : ∃ W, (w.alloc (.cells #[.int .u8 x, .slice q n c, .slice q2 n2 c2] 25)).alloc (.cells #[.int .i64 0] 3) = W := ⟨_, rfl⟩
  obtain ⟨W2, hW2⟩ : ∃ W, W1.setCell ⟨B + 1, 0, none⟩ (.int .i64 0) = W := ⟨_, rfl⟩
  have hb1 : Below w.heap.size w W1 := hW1 ▸ ((Below.refl _ w).alloc (Nat.le_refl _) _).alloc (by simp) _
  have hs1 : W1.heap.size = B + 2 := by rw [← hW1, ← hB]; simp
  have hx1' : SBox W1 B (.int .u8 x) (.slice q n c) (.slice q2 n2 c2) := by rw [← hW1, ← hB]; exact (SBox.new w _ _ _).fr ((Fr.refl (fun _ => False) _).alloc _) (fun e => e)
  have hbd1 : Bud W1 (B + 1) 0 := by
    rw [← hW1, ← hB]
    have h := heap_alloc_new (w.alloc (.cells #[.int .u8 x, .slice q n c, .slice q2 n2 c2] 25)) (.cells #[.int .i64 0] 3)
    simpa [Bud] using h
  have t0 : W1.cell? ⟨B + 1, 0, none⟩ = some (.int .i64 0) := hbd1.c
  have t1 := hbd1.f
  have hf2 : Fr (fun j => j = B + 1) W1 W2 := hW2 ▸ (Fr.refl (fun j => j = B + 1) W1).setCell (p := ⟨B + 1, 0, none⟩) rfl _
  have hb2 : Below w.heap.size w W2 := hb1.trans (hf2.toBelow hb1.size (fun j hj e => by omega))
  have hx2' : SBox W2 B (.int .u8 x) (.slice q n c) (.slice q2 n2 c2) := hx1'.fr hf2 (fun e => by omega)
  have hbd : Bud W2 (B + 1) 0 := hW2 ▸ hbd1.set 0 _ rfl
  have y0 := hx2'.c0
  have y1 := hx2'.c1
  have y2 := hx2'.c2
  have hcall := bld8 (W0 := w) (B0 := B + 1) (nn := nn) (by omega) (by omega) (by omega) 3 (by omega) W2 x q n c q2 n2 c2 0 hb2 hU.out.1 hU.out.2.1 hx hx2 hn hn2 hbd (by omega)
  go_enter Yba.func3, Yba.ntmps3
  go_wp2_with (go_at_call 8; fail)
  refine hcall.mono ?_
  clear hcall y0 y1 y2 t0 t1 hbd hbd1 hx1' hx2' hW2 hW1
  rintro e w3 ⟨a5, p5, n5, c5, p6, n6, c6, ok, rfl, hf3, hok⟩
  obtain ⟨J, hJ⟩ : ∃ J, w3.heap.size = J := ⟨_, rfl⟩
  obtain ⟨W4, hW4⟩ : ∃ W, w3.alloc (.cells #[.int .u64 (a5 : Nat), .slice p5 n5 c5, .slice p6 n6 c6] 30) = W := ⟨_, rfl⟩
  have hb3 : Below w.heap.size w w3 := hb2.trans (hf3.toBelow hb2.size (fun j hj e => by omega))
  have hb34 : Below w3.heap.size w3 W4 := hW4 ▸ (Below.refl _ w3).alloc (Nat.le_refl _) _
  have hb4 : Below w.heap.size w W4 := hb3.trans (hb34.mono hb3.size)
  have hbx : BoxAt W4 J (.int .u64 (a5 : Nat)) (.slice p5 n5 c5) (.slice p6 n6 c6) := by rw [← hW4, ← hJ]; exact BoxAt.new _ _ _ _
  have H4 : Hid (Below w.heap.size w W4 ∧ BoxAt W4 J (.int .u64 (a5 : Nat)) (.slice p5 n5 c5) (.slice p6 n6 c6)) := ⟨hb4, hbx⟩
  cases ok
  case false =>
    clear hok hb3 hb34 hb4 hbx hf3
    go_wp2
    exact HE.out _ H4.out.1
  case true =>
    obtain ⟨t, ha, hrep, hv, -⟩ := hok rfl
    have HT : Hid (thr 4 t = a5 ∧ Rep (fun k => W2.heap.size ≤ k) 64 4 W4 (.slice p5 n5 c5) (.slice p6 n6 c6) t ∧ ∀ v ∈ flat 4 t, 0 ≤ v ∧ v < nn) := ⟨ha, hrep.below hb34, hv⟩
    have hm9 := modes9 pm lm cm nn W4 ((hU.out.2.2.below hb4).u8) (by omega) hlm
    clear hok hb3 hb34 hb4 hbx hf3 ha hrep hv
    go_wp2_with (go_at_call 9; fail)
    refine hm9.mono ?_
    clear hm9
    rintro e w5 ⟨g, zs, rfl, hmd, hg, hb5⟩
    obtain ⟨Bm, hBm⟩ : ∃ Bm, w5.heap.size = Bm := ⟨_, rfl⟩
    obtain ⟨W6, hW6⟩ : ∃ W, w5.alloc (.cells #[.slice (some ⟨g, 0, none⟩) nn nn] 22) = W := ⟨_, rfl⟩
    have hb56 : Below w5.heap.size w5 W6 := hW6 ▸ (Below.refl _ w5).alloc (Nat.le_refl _) _
    have hb46 : Below W4.heap.size W4 W6 := hb5.trans (hb56.mono hb5.size)
    have hcm : W6.cell? ⟨Bm, 0, none⟩ = some (.slice (some ⟨g, 0, none⟩) nn nn) := by rw [← hW6, ← hBm]; simp
    have hbx6 := H4.out.2.fr (Below.toFr hb46) (fun e => e)
    have h13 := few13 (m := 64) (nn := nn) (L := L) (g := g) (Bm := Bm) (zs := zs) (by omega) (by omega) (by omega) (by omega) (by omega) 4 W6 _ _ t D _ (HT.out.2.1.below hb46) (hmd.below hb56) hcm HT.out.2.2
    rw [HT.out.1] at h13
    have H6 : Hid (Below W4.heap.size W4 W6 ∧ MdRow W6 g nn zs ∧ BoxAt W6 J (.int .u64 (a5 : Nat)) (.slice p5 n5 c5) (.slice p6 n6 c6)) := ⟨hb46, hmd.below hb56, hbx6⟩
    have y0 := hbx6.c0
    have y1 := hbx6.c1
    have y2 := hbx6.c2
    clear hb56 hb46 hbx6 hmd hb5
    go_wp2_with (go_at_call 13; fail)
    refine h13.mono ?_
    rintro e w7 ⟨rfl, hb7⟩
    have h14 := mod14 (m := 64) (nn := nn) (L := L) (g := g) (zs := zs) (by omega) (by omega) (by omega) 4 w7 _ _ t D _ ((HT.out.2.1.below H6.out.1).below hb7) (H6.out.2.1.below hb7) HT.out.2.2 (Nat.le_trans (flat_len 4 _ _ t HT.out.2.1) (by decide))
    rw [HT.out.1] at h14
    replace y0 := cell_bl hb7 y0
    replace y1 := cell_bl hb7 y1
    replace y2 := cell_bl hb7 y2
    replace hcm := cell_bl hb7 hcm
    generalize valT zs L 4 D t = val at h14 ⊢
    clear h13
    go_wp2_with (go_at_call 14; fail)
    refine h14.mono ?_
    clear h14 y0 y1 y2 hcm
    rintro e w8 ⟨rfl, hb8⟩
    have HB : Hid (Below w.heap.size w w8) := by
      have h1 := H4.out.1.trans (H6.out.1.mono H4.out.1.size)
      have h2 := h1.trans (hb7.mono h1.size)
      exact h2.trans (hb8.mono h2.size)
    clear hb7 hb8
    go_wp2
    exact HE.out _ HB.out
end Go.Proofs.Ybulkbciw
