import Derived.Test.YbulkbckmA4
namespace Go.Proofs.Ybulkbckm
open Go.RowKit
set_option linter.unusedSimpArgs false
set_option linter.unusedVariables false

/-- the builder's row: l bytes, room for cap; a head may be frozen -/
def BufRow (w : World) (g l cap : Nat) (bs : List UInt8) : Prop := ∃ (cur : List Value) (fz : Nat × Nat), w.heap[g]? = some (.cells cur.toArray 5 fz) ∧ fz.2 ≤ l ∧ l ≤ cap ∧ cur.length = cap ∧ cap ≤ maxLen ∧ bs.length = l ∧ cur.take l = Lib.byteCells bs

theorem run_append_roomF {P : Program} (w : World) (t ty e : TypeId) (i : TypeInfo) (ht : P.underlying t = some (.slice e)) (hi : P.info? e = some i) (hs1 : i.size = 1)
    (g sLen sCap : Nat) (cur : Array Value) (fz : Nat × Nat) (hg : w.heap[g]? = some (.cells cur e fz)) (hfz : fz.2 ≤ sLen)
    (a : Addr) (m c : Nat) (news : List Value) (hl : news.length = m) (hnews : ∀ j u, news[j]? = some u → w.cell? (a.add j) = some u) (h1 : ∀ u ∈ news, u.oneCell' = true)
    (hroom : sLen + m ≤ sCap) (hfit : sLen + m ≤ cur.size) :
    (Builtin.append_ #[t, t] ty #[.slice (some ⟨g, 0, none⟩) sLen sCap, .slice (some a) m c]).run P w =
      .ok (.slice (some ⟨g, 0, none⟩) (sLen + m) sCap) (w.setRow g (cur.toList.take sLen ++ news ++ cur.toList.drop (sLen + m)).toArray) := by
  have hf := run_firstCells_some (P := P) w 1 m a m c news (by omega) hnews
  have hst := run_storeCells_atF P g sLen e fz news 0 cur w hg (by simpa using hfz) (by simp; omega) h1
  simp only [Nat.add_zero, hl] at hst
  simp [Builtin.append_, run_underlying ht, sizeOf, typeInfo, hi, hs1, Builtin.lenOf, hroom, hf, Addr.add_lit, hst]

set_option maxHeartbeats 1000000 in
theorem write12 (B g l cap n c : Nat) (ad : Addr) (bs ys : List UInt8) (w : World) (h : BldAt w B (some ⟨B, 0, none⟩) (some ⟨g, 0, none⟩) l cap) (hr : BufRow w g l cap bs) (hgB : g ≠ B)
    (hy : ys.length = n) (hc : ∀ j v, (Lib.byteCells ys)[j]? = some v → w.cell? (ad.add j) = some v) (hroom : l + n ≤ cap) :
    Calls Yba.prog 12 #[.pointer (some ⟨B, 0, none⟩), .slice (some ad) n c] w fun e w' => (∃ v, e = .returned v) ∧ BldAt w' B (some ⟨B, 0, none⟩) (some ⟨g, 0, none⟩) (l + n) cap ∧ BufRow w' g (l + n) cap (bs ++ ys) ∧ Fr (fun k => k = B ∨ k = g) w w' := by
  obtain ⟨cur, fz, r1, r2, r3, r4, r5, r6, r7⟩ := hr
  obtain ⟨i0, hi0, hs0⟩ := Option.map_eq_some_iff.1 size5
  have hrun := run_append_roomF w 24 24 5 i0 Yba.underlying24 hi0 hs0 g l cap cur.toArray fz r1 r2 ad n c (Lib.byteCells ys) (by rw [Lib.byteCells_length, hy]) hc (byteCells_one ys) hroom (by simp; omega)
  simp only [List.toList_toArray] at hrun
  obtain ⟨cur', hcur'⟩ : ∃ cur', cur' = cur.take l ++ Lib.byteCells ys ++ cur.drop (l + n) := ⟨_, rfl⟩
  rw [← hcur'] at hrun
  have hB : (w.setRow g cur'.toArray).heap[B]? = w.heap[B]? := setRow_other w g B _ (fun e => hgB e.symm)
  have h2 : BldAt (w.setRow g cur'.toArray) B (some ⟨B, 0, none⟩) (some ⟨g, 0, none⟩) l cap := by unfold BldAt at h ⊢; rw [hB]; exact h
  have c1' := h2.c1
  have f1' := h2.f1
  have c0 := h.c0
  have c1 := h.c1
  have HP : Hid (BldAt ((w.setRow g cur'.toArray).setCell ⟨B, 1, none⟩ (.slice (some ⟨g, 0, none⟩) (l + n) cap)) B (some ⟨B, 0, none⟩) (some ⟨g, 0, none⟩) (l + n) cap ∧ BufRow ((w.setRow g cur'.toArray).setCell ⟨B, 1, none⟩ (.slice (some ⟨g, 0, none⟩) (l + n) cap)) g (l + n) cap (bs ++ ys) ∧ Fr (fun k => k = B ∨ k = g) w ((w.setRow g cur'.toArray).setCell ⟨B, 1, none⟩ (.slice (some ⟨g, 0, none⟩) (l + n) cap))) := by
    refine ⟨h2.set1 _ _ _, ⟨cur', fz, ?_, by omega, hroom, ?_, r5, by simp [r6, hy], ?_⟩, ?_⟩
    · rw [Below.heap_setCell _ _ _ _ (by simpa using hgB)]
      exact setRow_heap w g _ _ 5 _ r1
    · rw [hcur']; simp [Lib.byteCells_length, hy, r4]; omega
    · rw [hcur', r7, List.take_append_of_le_length (by simp [Lib.byteCells_length, r6, hy]), List.take_of_length_le (by simp [Lib.byteCells_length, r6, hy])]
      simp [Lib.byteCells]
    · exact ((Fr.ofGrown (grownBy_setRow w g cur'.toArray)).mono (fun k _ e => .inr (by simpa using e))).setCell (p := ⟨B, 1, none⟩) (.inl rfl) _
  have HRUN : Hid ((Builtin.append_ #[24, 24] 24 #[.slice (some ⟨g, 0, none⟩) l cap, .slice (some ad) n c]).run Yba.prog w = .ok (.slice (some ⟨g, 0, none⟩) (l + n) cap) (w.setRow g cur'.toArray)) := hrun
  clear h2 hB hcur' h r1 r7 hc hrun
  go_enter Yba.func12, Yba.ntmps12
  go_wp2_with (first
    | (go_at_call 16; refine (check16_used B w c0).mono ?_; rintro e w1 ⟨rfl, hw⟩; cases hw)
    | (at_builtin; refine Lib.wpList_append_run _ rfl _ _ 24 24 rfl _ _ rfl rfl _ _ HRUN.out ?_))
  go_ret2
  exact ⟨⟨_, rfl⟩, HP.out⟩

theorem froze_other (w : World) (g n k : Nat) (h : k ≠ g) : (w.freeze ⟨g, 0, none⟩ n).heap[k]? = w.heap[k]? := by
  unfold World.freeze
  split
  · rfl
  · simp only [Array.getElem?_modify]
    rw [if_neg (fun e => h e.symm)]
theorem froze_row (w : World) (g n : Nat) (cur : Array Value) (t : TypeId) (fz : Nat × Nat) (h : w.heap[g]? = some (.cells cur t fz)) (hfz : fz.2 ≤ n) : ∃ fz', (w.freeze ⟨g, 0, none⟩ n).heap[g]? = some (.cells cur t fz') ∧ fz'.2 ≤ n := by
  unfold World.freeze
  split
  · exact ⟨fz, h, hfz⟩
  · obtain ⟨lo, hi⟩ := fz
    simp only [Array.getElem?_modify, if_true, h, Option.map_some]
    refine ⟨_, rfl, ?_⟩
    split
    · simp
    · simp only at hfz ⊢; simp; omega

set_option maxHeartbeats 1000000 in
theorem string13 (B g l cap : Nat) (q : Option Addr) (bs : List UInt8) (w : World) (h : BldAt w B q (some ⟨g, 0, none⟩) l cap) (hr : BufRow w g l cap bs) (hgB : g ≠ B) (h0 : 0 < l) :
    Calls Yba.prog 13 #[.pointer (some ⟨B, 0, none⟩)] w fun e w' => e = .returned (.string ⟨bs.toArray⟩) ∧ BldAt w' B q (some ⟨g, 0, none⟩) l cap ∧ BufRow w' g l cap bs ∧ Fr (fun k => k = g) w w' := by
  obtain ⟨cur, fz, r1, r2, r3, r4, r5, r6, r7⟩ := hr
  have hne : bs ≠ [] := by intro e; rw [e] at r6; simp at r6; omega
  have c1 : w.drew.cell? ⟨B, 1, none⟩ = some (.slice (some ⟨g, 0, none⟩) l cap) := h.c1
  have hSD : (Builtin.unsafeSliceData_ #[24] 54 #[.slice (some ⟨g, 0, none⟩) l cap]).run Yba.prog w.drew = .ok (.pointer (some ⟨g, 0, none⟩)) w.drew :=
    Lib.run_unsafeSliceData_row _ _ _ _ _ _ (by omega)
  have hUS : (Builtin.unsafeString_ #[54, 3] 9 #[.pointer (some ⟨g, 0, none⟩), .int .i64 l]).run Yba.prog w.drew = .ok (.string ⟨bs.toArray⟩) (w.drew.freeze ⟨g, 0, none⟩ l) := by
    have hx := Lib.run_unsafeString_row (P := Yba.prog) w.drew 54 3 9 5 Yba.underlying54 (by kernel_rfl) g cur.toArray.size (by have hg' : w.drew.heap[g]? = some (.cells cur.toArray 5 fz) := r1; simp [World.shape?, hg']) bs hne (by simp; omega) (by unfold maxLen at r5; omega) ?_
    · rw [r6] at hx; exact hx
    · intro j x hx
      have hjl : j < l := by have := (List.getElem?_eq_some_iff.1 hx).1; omega
      have hb : (Lib.byteCells bs)[j]? = some (.int .u8 x.toNat) := by simp [Lib.byteCells, hx]
      rw [← r7, List.getElem?_take_of_lt hjl] at hb
      have hadd : (⟨g, 0, none⟩ : Addr).add j = ⟨g, j, none⟩ := by unfold Addr.add; split <;> simp_all
      rw [hadd]
      show w.cell? ⟨g, j, none⟩ = _
      simp only [World.cell?, r1]
      simpa using hb
  have HK : Hid (BldAt (w.drew.freeze ⟨g, 0, none⟩ l) B q (some ⟨g, 0, none⟩) l cap ∧ BufRow (w.drew.freeze ⟨g, 0, none⟩ l) g l cap bs ∧ Fr (fun k => k = g) w (w.drew.freeze ⟨g, 0, none⟩ l)) := by
    refine ⟨?_, ?_, ?_⟩
    · unfold BldAt at h ⊢
      rw [froze_other _ _ _ _ (fun e => hgB e.symm)]; exact h
    · obtain ⟨fz', e1, e2⟩ := froze_row w.drew g l cur.toArray 5 fz r1 r2
      exact ⟨cur, fz', e1, e2, r3, r4, r5, r6, r7⟩
    · refine ⟨?_, ?_, ?_, ?_, fun k _ hk => froze_other w.drew g l k hk⟩
      · unfold World.freeze; split <;> rfl
      · unfold World.freeze; split <;> rfl
      · unfold World.freeze; split <;> rfl
      · unfold World.freeze; split <;> simp
  clear h r1 r7
  go_enter Yba.func13, Yba.ntmps13
  go_wp2
  go_region_held3 (fun w' => w'.cell? ⟨B, 1, none⟩ = some (.slice (some ⟨g, 0, none⟩) l cap)) (first | go_keep | (exact HK.out.1.c1)) (fail)
  all_goals go_wp2
  all_goals go_ret
  all_goals exact ⟨rfl, HK.out⟩
end Go.Proofs.Ybulkbckm
