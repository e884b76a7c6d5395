import Derived.Test.YbulkbckmA7
import Derived.Lib.BufferRead
namespace Go.Proofs.Ybulkbckm
open Go.RowKit
set_option linter.unusedSimpArgs false
set_option linter.unusedVariables false

/-- how the block's length and room turn, as the law asks it -/
def Rel (n l cap l' cap' : Nat) : Prop :=
  ((n = 0 ∨ 16384 < n) → l' = l ∧ cap' = cap) ∧ (0 < n → n ≤ 16384 → (l + n ≤ cap → l' = l + n ∧ cap' = cap) ∧ (cap - l < n → l' = n ∧ n ≤ cap' ∧ 4096 ≤ cap' ∧ min (wrap64 (2 * (cap : Int))) 65536 ≤ cap'))

/-- the text's cells, wherever there are any -/
def Src (w : World) (pa : Option Addr) (n : Nat) (ys : List UInt8) : Prop := ys.length = n ∧ (0 < n → ∃ ad, pa = some ad ∧ ∀ j v, (Lib.byteCells ys)[j]? = some v → w.cell? (ad.add j) = some v)

theorem BSt.room {w : World} {B : Nat} {g : Option Nat} {l cap : Nat} (h : BSt w B g l cap) : l ≤ cap ∧ cap ≤ 9223372036854775807 := by
  cases g with
  | none => obtain ⟨_, rfl, rfl⟩ := h; omega
  | some g => obtain ⟨bs, _, ⟨_, _, _, _, r3, _, r5, _⟩, _⟩ := h; unfold maxLen at r5; omega
theorem BSt.at {w : World} {B : Nat} {g : Option Nat} {l cap : Nat} (h : BSt w B g l cap) : ∃ q p, BldAt w B q p l cap := by
  cases g with
  | none => obtain ⟨h, rfl, rfl⟩ := h; exact ⟨_, _, h⟩
  | some g => obtain ⟨bs, h, _⟩ := h; exact ⟨_, _, h⟩

theorem text7_st (B l cap n c : Nat) (g : Option Nat) (pa : Option Addr) (ys : List UInt8) (w : World) (h : BSt w B g l cap) (hs : Src w pa n ys) (hm : n ≤ 16777216) (hB : 0 < n → ∀ ad, pa = some ad → ad.block ≠ B) :
    Calls Yba.prog 7 #[.pointer (some ⟨B, 0, none⟩), .slice pa n c] w fun e w' => e = .returned (.string ⟨ys.toArray⟩) ∧
      ∃ g' l' cap', BSt w' B g' l' cap' ∧ (g' = g ∨ ∃ x, g' = some x ∧ w.heap.size ≤ x) ∧ Fr (fun k => k = B ∨ some k = g) w w' ∧ Rel n l cap l' cap' := by
  obtain ⟨hy, hs⟩ := hs
  by_cases h0 : n = 0
  · subst h0
    obtain rfl : ys = [] := List.length_eq_zero_iff.1 hy
    refine (text7_nil _ pa c w).mono ?_
    rintro e w' ⟨rfl, rfl⟩
    exact ⟨rfl, g, l, cap, h, .inl rfl, Fr.refl _ _, fun _ => ⟨rfl, rfl⟩, fun h => by omega⟩
  · obtain ⟨ad, rfl, hc⟩ := hs (by omega)
    by_cases hbig : 16384 < n
    · refine (text7_own _ ad n c ys w hy (by omega) hm (.inr hbig) hc).mono ?_
      rintro e w' ⟨rfl, rfl⟩
      exact ⟨rfl, g, l, cap, h, .inl rfl, Fr.refl _ _, fun _ => ⟨rfl, rfl⟩, fun _ h => by omega⟩
    · have hr := h.room
      by_cases hfit : l + n ≤ cap
      · cases g with
        | none => obtain ⟨_, rfl, rfl⟩ := h; omega
        | some g =>
          obtain ⟨bs, hb, hrow, hgB⟩ := h
          refine (text7_fit B g l cap ad n c bs ys w hb hrow hgB hy (by omega) (by omega) hfit hc).mono ?_
          rintro e w' ⟨rfl, hst, hfr⟩
          exact ⟨rfl, some g, l + n, cap, hst, .inl rfl, hfr.mono (fun k _ e => e.imp id (fun e => by rw [e])), fun h => by omega, fun _ _ => ⟨fun _ => ⟨rfl, rfl⟩, fun h => by omega⟩⟩
      · obtain ⟨q, p, hb⟩ := h.at
        refine (text7_new B l cap q p ad n c ys w hb hr.2 hr.1 hy (by omega) (by omega) (by omega) (hB (by omega) ad rfl) hc).mono ?_
        rintro e w' ⟨rfl, g', cap', hg', hst, hfr, k1, k2, k3⟩
        exact ⟨rfl, some g', n, cap', hst, .inr ⟨g', rfl, hg'⟩, hfr.mono (fun k _ e => .inl e), fun h => by omega, fun _ _ => ⟨fun h => by omega, fun _ => ⟨rfl, k1, k2, k3⟩⟩⟩

theorem text7_no (n c : Nat) (pa : Option Addr) (ys : List UInt8) (w : World) (hs : Src w pa n ys) (hm : n ≤ 16777216) :
    Calls Yba.prog 7 #[.pointer none, .slice pa n c] w fun e w' => e = .returned (.string ⟨ys.toArray⟩) ∧ w' = w := by
  obtain ⟨hy, hs⟩ := hs
  by_cases h0 : n = 0
  · subst h0
    obtain rfl : ys = [] := List.length_eq_zero_iff.1 hy
    exact text7_nil _ pa c w
  · obtain ⟨ad, rfl, hc⟩ := hs (by omega)
    exact text7_own _ ad n c ys w hy (by omega) hm (.inl rfl) hc

set_option maxHeartbeats 400000 in
theorem max8 (a b c r : Int) (hr : max a (max b c) = r) (w : World) : Calls Yba.prog 8 #[.int .i64 a, .int .i64 b, .int .i64 c] w fun e w' => e = .returned (.int .i64 r) ∧ w' = w := by
  have HR : Hid (max a (max b c) = r) := hr
  clear hr
  by_cases h1 : a < b
  · by_cases h2 : b < c
    · go_enter Yba.func8, Yba.ntmps8
      go_wp2
      go_ret
      exact ⟨by rw [show r = c by have := HR.out; omega]; rfl, rfl⟩
    · go_enter Yba.func8, Yba.ntmps8
      go_wp2
      go_ret
      exact ⟨by rw [show r = b by have := HR.out; omega]; rfl, rfl⟩
  · by_cases h2 : a < c
    · go_enter Yba.func8, Yba.ntmps8
      go_wp2
      go_ret
      exact ⟨by rw [show r = c by have := HR.out; omega]; rfl, rfl⟩
    · go_enter Yba.func8, Yba.ntmps8
      go_wp2
      go_ret
      exact ⟨by rw [show r = a by have := HR.out; omega]; rfl, rfl⟩

theorem conv_src (w : World) (pa : Option Addr) (n c : Nat) (ys : List UInt8) (h : Src w pa n ys) : (convert 24 9 (.slice pa n c)).run Yba.prog w = .ok (.string ⟨ys.toArray⟩) w := by
  obtain ⟨hy, hs⟩ := h
  by_cases h0 : n = 0
  · subst h0
    obtain rfl : ys = [] := List.length_eq_zero_iff.1 hy
    cases pa with
    | none => exact Lib.run_convert_nil_bytes w 24 9 5 c Yba.underlying24 Yba.underlying5 Yba.underlying9
    | some ad => exact conv_bytes w ad 0 c [] rfl (fun j v hj => by simp [Lib.byteCells] at hj)
  · obtain ⟨ad, rfl, hc⟩ := hs (by omega)
    exact conv_bytes w ad n c ys hy hc

/-- bytes.Repeat, any text of at most 4096 bytes, any count from 1 to 4096 -/
theorem rep_any (pa : Option Addr) (l c k : Nat) (bs : List UInt8) (w : World) (hs : Src w pa l bs) (l1 : l ≤ 4096) (h1 : 1 ≤ k) (h2 : k ≤ 4096) :
    Calls Yba.prog 4 #[.slice pa l c, .int .i64 k] w fun e w' => ∃ p cap ys, e = .returned (.slice p (l * k) cap) ∧ Src w' p (l * k) ys ∧ (0 < l * k → ∀ ad, p = some ad → w.heap.size ≤ ad.block) ∧ Below w.heap.size w w' := by
  obtain ⟨hy, hs⟩ := hs
  by_cases h0 : l = 0
  · subst h0
    refine (rep4_nil pa c k w h1 h2).mono ?_
    rintro e w' ⟨⟨p, cap, rfl⟩, hb⟩
    exact ⟨p, cap, [], by simp, ⟨by simp, fun h => by simp at h⟩, fun h => by simp at h, hb⟩
  · obtain ⟨ad, rfl, hc⟩ := hs (by omega)
    refine (rep4 ad l c k bs w hy (by omega) l1 h1 h2 hc).mono ?_
    rintro e w' ⟨g, cap, ys, rfl, hg, ⟨cur, r1, r2, r3, r4⟩, hb⟩
    refine ⟨_, cap, ys, rfl, ⟨r2, fun _ => ⟨_, rfl, fun j v hj => ?_⟩⟩, fun _ ad h => by cases h; exact hg, hb⟩
    have hjl : j < l * k := by have := (List.getElem?_eq_some_iff.1 hj).1; rw [Lib.byteCells_length] at this; omega
    rw [← r4, List.getElem?_take_of_lt hjl] at hj
    have hadd : (⟨g, 0, none⟩ : Addr).add j = ⟨g, j, none⟩ := by unfold Addr.add; split <;> simp_all
    rw [hadd]
    simp only [World.cell?, r1]
    simpa using hj
end Go.Proofs.Ybulkbckm
