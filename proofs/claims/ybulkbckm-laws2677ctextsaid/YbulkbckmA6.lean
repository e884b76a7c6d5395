import Derived.Test.YbulkbckmA5
import Derived.Laws.IdiomStrings
namespace Go.Proofs.Ybulkbckm
open Go.RowKit
set_option linter.unusedSimpArgs false
set_option linter.unusedVariables false

/-- the builder's state: never written (g = none), or its row in block g -/
def BSt (w : World) (B : Nat) (g : Option Nat) (l cap : Nat) : Prop :=
  match g with
  | none => BldAt w B none none 0 0 ∧ l = 0 ∧ cap = 0
  | some g => ∃ bs, BldAt w B (some ⟨B, 0, none⟩) (some ⟨g, 0, none⟩) l cap ∧ BufRow w g l cap bs ∧ g ≠ B

set_option maxHeartbeats 400000 in
theorem text7_nil (q : Option Addr) (a : Option Addr) (c : Nat) (w : World) :
    Calls Yba.prog 7 #[.pointer q, .slice a 0 c] w fun e w' => e = .returned (.string ⟨#[]⟩) ∧ w' = w := by
  go_enter Yba.func7, Yba.ntmps7
  go_wp2
  go_ret
  exact ⟨rfl, rfl⟩

theorem conv_bytes (w : World) (ad : Addr) (n c : Nat) (ys : List UInt8) (hy : ys.length = n) (hc : ∀ j v, (Lib.byteCells ys)[j]? = some v → w.cell? (ad.add j) = some v) :
    (convert 24 9 (.slice (some ad) n c)).run Yba.prog w = .ok (.string ⟨ys.toArray⟩) w := by
  subst hy
  exact run_convert_bytes_back w 24 9 5 ad c ys Yba.underlying24 Yba.underlying5 Yba.underlying9 (fun j hj => hc j _ (by simp [Lib.byteCells, hj]))

set_option maxHeartbeats 1000000 in
theorem text7_own (q : Option Addr) (ad : Addr) (n c : Nat) (ys : List UInt8) (w : World) (hy : ys.length = n) (hn : 0 < n) (hm : n ≤ 16777216) (hb : q = none ∨ 16384 < n) (hc : ∀ j v, (Lib.byteCells ys)[j]? = some v → w.cell? (ad.add j) = some v) :
    Calls Yba.prog 7 #[.pointer q, .slice (some ad) n c] w fun e w' => e = .returned (.string ⟨ys.toArray⟩) ∧ w' = w := by
  have hcv := conv_bytes w ad n c ys hy hc
  clear hc
  rcases hb with rfl | hbig
  · go_enter Yba.func7, Yba.ntmps7
    go_wp2
    go_ret
    exact ⟨rfl, rfl⟩
  · have hbig' : (16384 : Int) < (n : Int) := by omega
    cases q with
    | none =>
      go_enter Yba.func7, Yba.ntmps7
      go_wp2
      go_ret
      exact ⟨rfl, rfl⟩
    | some q =>
      go_enter Yba.func7, Yba.ntmps7
      go_wp2
      go_ret
      exact ⟨rfl, rfl⟩

theorem ext_tail (bs ys : List UInt8) (l n : Nat) (hb : bs.length = l) (hy : ys.length = n) : ByteArray.extract ⟨(bs ++ ys).toArray⟩ l (l + n) = ⟨ys.toArray⟩ := by
  apply ByteArray.ext
  rw [ByteArray.data_extract]
  subst hb hy
  apply Array.ext'
  simp

set_option maxHeartbeats 1000000 in
/-- a text that fits is put behind what lies there -/
theorem text7_fit (B g l cap : Nat) (ad : Addr) (n c : Nat) (bs ys : List UInt8) (w : World) (h : BldAt w B (some ⟨B, 0, none⟩) (some ⟨g, 0, none⟩) l cap) (hr : BufRow w g l cap bs) (hgB : g ≠ B)
    (hy : ys.length = n) (hn : 0 < n) (hm : n ≤ 16384) (hroom : l + n ≤ cap) (hc : ∀ j v, (Lib.byteCells ys)[j]? = some v → w.cell? (ad.add j) = some v) :
    Calls Yba.prog 7 #[.pointer (some ⟨B, 0, none⟩), .slice (some ad) n c] w fun e w' => e = .returned (.string ⟨ys.toArray⟩) ∧ BSt w' B (some g) (l + n) cap ∧ Fr (fun k => k = B ∨ k = g) w w' := by
  have c1 := h.c1
  have hcm : cap ≤ 9223372036854775807 := by obtain ⟨_, _, _, _, _, _, r5, _⟩ := hr; unfold maxLen at r5; omega
  have hbl : bs.length = l := by obtain ⟨_, _, _, _, _, _, _, r6, _⟩ := hr; exact r6
  have HB : Hid (BldAt w B (some ⟨B, 0, none⟩) (some ⟨g, 0, none⟩) l cap ∧ BufRow w g l cap bs ∧ (∀ j v, (Lib.byteCells ys)[j]? = some v → w.cell? (ad.add j) = some v)) := ⟨h, hr, hc⟩
  clear h hr hc
  have hsub : IntKind.i64.wrap ((cap : Int) - (l : Int)) = (cap : Int) - l := by rw [IntKind.wrap_i64]; omega
  have hlt : decide ((cap : Int) - (l : Int) < (n : Int)) = false := by simp; omega
  have l5 := len5 B (some ⟨g, 0, none⟩) l cap
  have l6 := cap6 B (some ⟨g, 0, none⟩) l cap
  go_enter Yba.func7, Yba.ntmps7
  go_wp2
  go_quiet ((first
    | (go_at_call 6; exact Calls.quiet_of_same (l6 _ c1))
    | (go_at_call 5; exact Calls.quiet_of_same (l5 _ c1))))
  obtain ⟨W, eW, HW⟩ : ∃ W, w.drewN nq = W ∧ Hid (BldAt W B (some ⟨B, 0, none⟩) (some ⟨g, 0, none⟩) l cap ∧ BufRow W g l cap bs ∧ (∀ j v, (Lib.byteCells ys)[j]? = some v → W.cell? (ad.add j) = some v) ∧ Fr (fun k => k = B ∨ k = g) w W) := ⟨_, rfl, HB.out.1, HB.out.2.1, HB.out.2.2, (Fr.refl _ w).drewN nq⟩
  rw [eW]
  clear eW HB c1 l5 l6
  go_wp2_with (first
    | (go_at_call 5; refine (len5 B (some ⟨g, 0, none⟩) l cap W HW.out.1.c1).mono ?_; rintro e w' ⟨rfl, hw⟩; cases hw)
    | (go_at_call 12; refine (write12 B g l cap n c ad bs ys W HW.out.1 HW.out.2.1 hgB hy HW.out.2.2.1 hroom).mono ?_; rintro e w1 ⟨⟨v, rfl⟩, hw1⟩; have HW1 : Hid (BldAt w1 B (some ⟨B, 0, none⟩) (some ⟨g, 0, none⟩) (l + n) cap ∧ BufRow w1 g (l + n) cap (bs ++ ys) ∧ Fr (fun k => k = B ∨ k = g) W w1) := hw1; clear hw1)
    | (go_at_call 13; refine (string13 B g (l + n) cap _ (bs ++ ys) w1 HW1.out.1 HW1.out.2.1 hgB (by omega)).mono ?_; rintro e w2 ⟨rfl, hw2⟩; have HW2 : Hid (BldAt w2 B (some ⟨B, 0, none⟩) (some ⟨g, 0, none⟩) (l + n) cap ∧ BufRow w2 g (l + n) cap (bs ++ ys) ∧ Fr (fun k => k = g) w1 w2) := hw2; clear hw2))
  go_ret
  refine ⟨?_, ⟨bs ++ ys, HW2.out.1, HW2.out.2.1, hgB⟩, (HW.out.2.2.2.trans HW1.out.2.2 (fun _ _ e => e)).trans HW2.out.2.2 (fun _ _ e => .inr e)⟩
  show Ending.returned (Value.string (ByteArray.extract ⟨(bs ++ ys).toArray⟩ l (l + n))) = _
  rw [ext_tail bs ys l n hbl hy]
end Go.Proofs.Ybulkbckm
