import Derived.Test.YbulkbckmA6
namespace Go.Proofs.Ybulkbckm
open Go.RowKit
set_option linter.unusedSimpArgs false
set_option linter.unusedVariables false

theorem kept_src {W w2 : World} {B : Nat} {ad : Addr} {j : Nat} {v : Value} (h : Fr (fun k => k = B) W w2) (hB : ad.block ≠ B) (hc : W.cell? (ad.add j) = some v) : w2.cell? (ad.add j) = some v := by
  have hb : (ad.add j).block = ad.block := by unfold Addr.add; split <;> rfl
  rw [h.cell (World.block_lt_of_cell? W _ hc) (by rw [hb]; exact hB)]; exact hc

/-- what Grow leaves: a fresh row of room for at least x bytes -/
def Fresh (W w2 : World) (B n : Nat) (D : Int) (cs : List Value) : Prop :=
  BldAt w2 B (some ⟨B, 0, none⟩) (some ⟨W.heap.size, 0, none⟩) 0 cs.length ∧ BufRow w2 W.heap.size 0 cs.length [] ∧ Fr (fun k => k = B) W w2 ∧ n ≤ cs.length ∧ 4096 ≤ cs.length ∧ min D 65536 ≤ cs.length

theorem new_grow (B l cap n : Nat) (q p : Option Addr) (D x : Int) (W : World) (h : BldAt W B q p l cap) (h1 : (n : Int) ≤ x) (h2 : 4096 ≤ x) (h3 : min D 65536 ≤ x) (h4 : x ≤ 65536) :
    Calls Yba.prog 11 #[.pointer (some ⟨B, 0, none⟩), .int .i64 x] ((W.setCell ⟨B, 0, none⟩ (.pointer none)).setCell ⟨B, 1, none⟩ (.slice none 0 0)) fun e w2 => e = .returned (.tuple #[]) ∧ ∃ cs, Fresh W w2 B n D cs := by
  obtain ⟨sz, rfl⟩ : ∃ sz : Nat, x = sz := ⟨x.toNat, by omega⟩
  have hb : BldAt ((W.setCell ⟨B, 0, none⟩ (.pointer none)).setCell ⟨B, 1, none⟩ (.slice none 0 0)) B none none 0 0 := (h.set0 none).set1 none 0 0
  have hfr : Fr (fun k => k = B) W ((W.setCell ⟨B, 0, none⟩ (.pointer none)).setCell ⟨B, 1, none⟩ (.slice none 0 0)) := ((Fr.refl (fun k => k = B) W).setCell (p := ⟨B, 0, none⟩) rfl _).setCell (p := ⟨B, 1, none⟩) rfl _
  have hsz : ((W.setCell ⟨B, 0, none⟩ (.pointer none)).setCell ⟨B, 1, none⟩ (.slice none 0 0)).heap.size = W.heap.size := by simp [World.setCell]
  refine (Grow11 B sz _ hb (by omega) (by omega)).mono ?_
  rintro e w2 ⟨rfl, cs, g1, g2, g3, g4, g5⟩
  rw [hsz] at g1 g2
  exact ⟨rfl, cs, g1, ⟨cs, (0, 0), g2, Nat.le_refl _, Nat.zero_le _, rfl, g4 (by unfold maxLen; omega), rfl, by simp [Lib.byteCells]⟩, hfr.trans g5 (fun _ _ e => e), by omega, by omega, by omega⟩

theorem fr_new {w W w2 w3 w4 : World} {B : Nat} (h0 : Fr (fun k => k = B) w W) (h1 : Fr (fun k => k = B) W w2) (h2 : Fr (fun k => k = B ∨ k = W.heap.size) w2 w3) (h3 : Fr (fun k => k = W.heap.size) w3 w4) : Fr (fun k => k = B) w w4 := by
  have hsz := h0.size
  refine ((h0.trans h1 (fun _ _ e => e)).trans h2 (fun k hk e => ?_)).trans h3 (fun k hk e => ?_)
  · rcases e with e | e
    · exact e
    · omega
  · omega

theorem str_whole (ys : List UInt8) (n : Nat) (hy : ys.length = n) : Ending.returned (Value.string (ByteArray.extract ⟨ys.toArray⟩ 0 n)) = Ending.returned (Value.string ⟨ys.toArray⟩) := by
  have h := ext_tail [] ys 0 n rfl hy
  simp only [List.nil_append, Nat.zero_add] at h
  rw [h]

set_option maxHeartbeats 1000000 in
/-- a text that does not fit: a new block -/
theorem text7_new (B l cap : Nat) (q p : Option Addr) (ad : Addr) (n c : Nat) (ys : List UInt8) (w : World) (h : BldAt w B q p l cap) (hcm : cap ≤ 9223372036854775807) (hlc : l ≤ cap)
    (hy : ys.length = n) (hn : 0 < n) (hm : n ≤ 16384) (hroom : cap - l < n) (hadB : ad.block ≠ B) (hc : ∀ j v, (Lib.byteCells ys)[j]? = some v → w.cell? (ad.add j) = some v) :
    Calls Yba.prog 7 #[.pointer (some ⟨B, 0, none⟩), .slice (some ad) n c] w fun e w' => e = .returned (.string ⟨ys.toArray⟩) ∧
      ∃ g' cap', w.heap.size ≤ g' ∧ BSt w' B (some g') n cap' ∧ Fr (fun k => k = B) w w' ∧ n ≤ cap' ∧ 4096 ≤ cap' ∧ min (wrap64 (2 * (cap : Int))) 65536 ≤ cap' := by
  have c1 := h.c1
  have hsub : IntKind.i64.wrap ((cap : Int) - (l : Int)) = (cap : Int) - l := by rw [IntKind.wrap_i64]; omega
  have hlt : decide ((cap : Int) - (l : Int) < (n : Int)) = true := by simp; omega
  have l5 := len5 B p l cap
  have l6 := cap6 B p l cap
  have HB : Hid (BldAt w B q p l cap ∧ (∀ j v, (Lib.byteCells ys)[j]? = some v → w.cell? (ad.add j) = some v)) := ⟨h, hc⟩
  clear h hc
  go_enter Yba.func7, Yba.ntmps7
  go_wp2
  go_quiet ((first
    | (go_at_call 6; exact Calls.quiet_of_same (l6 _ c1))
    | (go_at_call 5; exact Calls.quiet_of_same (l5 _ c1))))
  obtain ⟨W, eW, HW⟩ : ∃ W, w.drewN nq = W ∧ Hid (BldAt W B q p l cap ∧ (∀ j v, (Lib.byteCells ys)[j]? = some v → W.cell? (ad.add j) = some v) ∧ Fr (fun k => k = B) w W) := ⟨_, rfl, HB.out.1, HB.out.2, (Fr.refl _ w).drewN nq⟩
  rw [eW]
  clear eW HB c1 l5 l6
  have z0 := HW.out.1.c0
  have z1 := HW.out.1.c1
  have f0 := HW.out.1.f0
  have f1 := HW.out.1.f1
  go_wp2_with (first
    | (go_at_call 6; refine (cap6 B p l cap W HW.out.1.c1).mono ?_; rintro e w' ⟨rfl, hw⟩; cases hw)
    | (go_at_call 11; fail))
  all_goals refine Calls.mono (new_grow B l cap n q p (wrap64 (2 * (cap : Int))) _ W HW.out.1 ?_ ?_ ?_ ?_) ?_
  all_goals first | omega | skip
  all_goals rintro e w2 ⟨rfl, cs, hg⟩
  all_goals clear z0 z1 f0 f1
  all_goals have HG : Hid (Fresh W w2 B n (wrap64 (2 * (cap : Int))) cs) := hg
  all_goals clear hg
  all_goals go_wp2_with (first
    | (go_at_call 5; refine (len5 B _ 0 cs.length w2 HG.out.1.c1).mono ?_; rintro e w' ⟨rfl, hw⟩; cases hw)
    | (go_at_call 12; refine (write12 B W.heap.size 0 cs.length n c ad [] ys w2 HG.out.1 HG.out.2.1 (Nat.ne_of_gt HW.out.1.lt) hy (fun j v hj => kept_src HG.out.2.2.1 hadB (HW.out.2.1 j v hj)) (by rw [Nat.zero_add]; exact HG.out.2.2.2.1)).mono ?_; rintro e w3 ⟨⟨v, rfl⟩, hw1⟩; have HW1 : Hid (BldAt w3 B (some ⟨B, 0, none⟩) (some ⟨W.heap.size, 0, none⟩) (0 + n) cs.length ∧ BufRow w3 W.heap.size (0 + n) cs.length ([] ++ ys) ∧ Fr (fun k => k = B ∨ k = W.heap.size) w2 w3) := hw1; clear hw1)
    | (go_at_call 13; refine (string13 B W.heap.size (0 + n) cs.length _ ([] ++ ys) w3 HW1.out.1 HW1.out.2.1 (Nat.ne_of_gt HW.out.1.lt) (by omega)).mono ?_; rintro e w4 ⟨rfl, hw2⟩; have HW2 : Hid (BldAt w4 B (some ⟨B, 0, none⟩) (some ⟨W.heap.size, 0, none⟩) (0 + n) cs.length ∧ BufRow w4 W.heap.size (0 + n) cs.length ([] ++ ys) ∧ Fr (fun k => k = W.heap.size) w3 w4) := hw2; clear hw2))
  all_goals go_ret
  all_goals refine ⟨by first | rfl | exact str_whole ys n hy, W.heap.size, cs.length, HW.out.2.2.size, by have := HW2.out; rw [Nat.zero_add] at this; exact ⟨ys, this.1, this.2.1, Nat.ne_of_gt HW.out.1.lt⟩, fr_new HW.out.2.2 HG.out.2.2.1 HW1.out.2.2 HW2.out.2.2, HG.out.2.2.2⟩
end Go.Proofs.Ybulkbckm
