import Derived.Test.YbulkbciwA7
namespace Go.Proofs.Ybulkbciw
open Go.RowKit
set_option linter.unusedSimpArgs false
set_option linter.unusedVariables false

/-- the modes' row: nn bytes, each 0, 1 or 2 -/
def MdRow (w : World) (g nn : Nat) (zs : List Nat) : Prop := w.heap[g]? = some (.cells (zs.map (fun z : Nat => Value.int .u8 (z : Int))).toArray 5 (0, 0)) ∧ zs.length = nn ∧ ∀ z ∈ zs, z ≤ 2
theorem MdRow.get {w : World} {g nn : Nat} {zs : List Nat} (h : MdRow w g nn zs) (i : Nat) (hi : i < nn) : w.cell? ⟨g, i, none⟩ = some (.int .u8 ((zs.getD i 0 : Nat) : Int)) := by
  have hl := h.2.1
  simp only [World.cell?, h.1]
  simp [List.getD_eq_getElem?_getD, List.getElem?_eq_getElem (show i < zs.length by omega)]
theorem MdRow.le {w : World} {g nn : Nat} {zs : List Nat} (h : MdRow w g nn zs) (i : Nat) : zs.getD i 0 ≤ 2 := by
  rw [List.getD_eq_getElem?_getD]
  cases hi : zs[i]? with
  | none => simp
  | some z => exact h.2.2 z (List.mem_of_getElem? hi)
theorem MdRow.below {w w' : World} {g nn : Nat} {zs : List Nat} (h : MdRow w g nn zs) (hb : Below w.heap.size w w') : MdRow w' g nn zs :=
  ⟨by rw [hb.block g (lt_of_block h.1)]; exact h.1, h.2⟩

set_option maxHeartbeats 400000 in
theorem mode11 (g nn : Nat) (zs : List Nat) (v : Int) (w : World) (h : MdRow w g nn zs) (h0 : 0 ≤ v) (h1 : v < nn) : Calls Yba.prog 11 #[.slice (some ⟨g, 0, none⟩) nn nn, .int .i64 v] w fun e w' => e = .returned (.int .i64 ((zs.getD v.toNat 0 : Nat) : Int)) ∧ w' = w := by
  obtain ⟨k, rfl⟩ : ∃ k : Nat, v = k := ⟨v.toNat, by omega⟩
  have hk : k < nn := by omega
  have hc := h.get k hk
  have hle := h.le k
  rw [Int.toNat_natCast]
  generalize zs.getD k 0 = z at hc hle
  clear h
  go_enter Yba.func11, Yba.ntmps11
  go_wp2
  go_ret
  exact ⟨rfl, rfl⟩

set_option maxHeartbeats 400000 in
theorem present10 (g nn Bm : Nat) (zs : List Nat) (v : Int) (w : World) (h : MdRow w g nn zs) (hb : w.cell? ⟨Bm, 0, none⟩ = some (.slice (some ⟨g, 0, none⟩) nn nn)) (h0 : 0 ≤ v) (h1 : v < nn) :
    Calls Yba.prog 10 #[.int .i64 v, .pointer (some ⟨Bm, 0, none⟩)] w fun e w' => e = .returned (.bool (decide (zs.getD v.toNat 0 = 0))) ∧ w' = w := by
  have hm := mode11 g nn zs v w h h0 h1
  generalize zs.getD v.toNat 0 = z at hm
  by_cases hz : z = 0
  · subst hz
    go_enter Yba.func10, Yba.ntmps10
    go_wp2_with (go_at_call 11; refine hm.mono ?_; rintro e w' ⟨rfl, e'⟩; obtain rfl := e'.symm)
    go_ret
    exact ⟨rfl, rfl⟩
  · have hb2 : ((z : Int) == 0) = false := by rw [beq_eq_false_iff_ne]; omega
    rw [decide_eq_false hz]
    go_enter Yba.func10, Yba.ntmps10
    go_wp2_with (go_at_call 11; refine hm.mono ?_; rintro e w' ⟨rfl, e'⟩; obtain rfl := e'.symm)
    go_ret
    exact ⟨rfl, rfl⟩

set_option maxHeartbeats 400000 in
theorem avail12 (g nn Bm : Nat) (zs : List Nat) (v : Int) (w : World) (h : MdRow w g nn zs) (hb : w.cell? ⟨Bm, 0, none⟩ = some (.slice (some ⟨g, 0, none⟩) nn nn)) (h0 : 0 ≤ v) (h1 : v < nn) :
    Calls Yba.prog 12 #[.int .i64 v, .pointer (some ⟨Bm, 0, none⟩)] w fun e w' => e = .returned (.bool (decide (zs.getD v.toNat 0 = 1))) ∧ w' = w := by
  have hm := mode11 g nn zs v w h h0 h1
  generalize zs.getD v.toNat 0 = z at hm
  by_cases hz : z = 1
  · subst hz
    go_enter Yba.func12, Yba.ntmps12
    go_wp2_with (go_at_call 11; refine hm.mono ?_; rintro e w' ⟨rfl, e'⟩; obtain rfl := e'.symm)
    go_ret
    exact ⟨rfl, rfl⟩
  · have hb2 : ((z : Int) == 1) = false := by rw [beq_eq_false_iff_ne]; omega
    rw [decide_eq_false hz]
    go_enter Yba.func12, Yba.ntmps12
    go_wp2_with (go_at_call 11; refine hm.mono ?_; rintro e w' ⟨rfl, e'⟩; obtain rfl := e'.symm)
    go_ret
    exact ⟨rfl, rfl⟩

/-- a row of bytes that came in -/
def U8 (w : World) (p : Option Addr) (n : Nat) : Prop := ∀ i, i < n → ∃ b off x, p = some ⟨b, off, none⟩ ∧ w.cell? ⟨b, off + i, none⟩ = some (.int .u8 x) ∧ 0 ≤ x
theorem U8.below {w w' : World} {p : Option Addr} {n : Nat} (h : U8 w p n) (hb : Below w.heap.size w w') : U8 w' p n := fun i hi => by
  obtain ⟨b, off, x, e, hc, h0⟩ := h i hi
  refine ⟨b, off, x, e, ?_, h0⟩
  rw [World.cell?_of_block (w := w) (hb.block _ (cell_lt hc))]
  exact hc

theorem make22 (n : Nat) (hn : n ≤ 8) (w : World) : (Instr.makeSlice 22 (.int .i64 (n : Int)) (.int .i64 (n : Int))).run Yba.prog w = .ok (.slice (some ⟨w.heap.size, 0, none⟩) n n) (w.alloc (.cells (madeCells #[.int .u8 0] n) 5)) := by
  obtain ⟨i, hi, hz⟩ := Option.map_eq_some_iff.1 (by kernel_rfl : (Yba.prog.info? 5).map (fun i => (i.zero, i.size, i.bytes)) = some (some (.int .u8 0), 1, 1))
  simp only [Prod.mk.injEq] at hz
  have h := run_make (P := Yba.prog) w 22 5 i (.int .u8 0) Yba.underlying22 hi hz.1 .i64 .i64 (n : Int) (n : Int) (by omega) (by omega) (by rw [hz.2.2]; omega) (by omega)
  simp only [hz.2.1, Nat.mul_one, Int.toNat_natCast, Value.cells] at h
  exact h

theorem made_u8 (n : Nat) : madeCells #[Value.int .u8 0] n = ((List.replicate n 0).map (fun z : Nat => Value.int .u8 (z : Int))).toArray := by
  apply Array.ext'
  simp only [madeCells]
  apply List.ext_getElem
  · simp
  · intro i h1 h2
    simp [Nat.mod_one]

theorem MdRow.set {w : World} {g nn : Nat} {zs : List Nat} (h : MdRow w g nn zs) (k z : Nat) (hz : z ≤ 2) : MdRow (w.setCell ⟨g, k, none⟩ (.int .u8 (z : Int))) g nn (zs.set k z) := by
  obtain ⟨h1, h2, h3⟩ := h
  refine ⟨?_, by simp [h2], fun y hy => ?_⟩
  · rw [setCell_eq_setRow w g k _ 5 (0, 0) _ h1, setRow_heap w g _ _ 5 _ h1, List.map_set]
    simp
  · rcases List.mem_or_eq_of_mem_set hy with h | h
    · exact h3 y h
    · omega

set_option maxHeartbeats 1000000 in
theorem modes9 (p : Option Addr) (l c nn : Nat) (w : World) (h : U8 w p l) (hn : nn ≤ 8) (hl : l ≤ 9223372036854775807) :
    Calls Yba.prog 9 #[.slice p l c, .int .i64 (nn : Int)] w fun e w' => ∃ g zs, e = .returned (.slice (some ⟨g, 0, none⟩) nn nn) ∧ MdRow w' g nn zs ∧ w.heap.size ≤ g ∧ Below w.heap.size w w' := by
  have HU : Hid (U8 w p l) := h
  have mk := make22 nn hn
  clear h
  go_enter Yba.func9, Yba.ntmps9
  go_wp2
  obtain ⟨W1, hW1⟩ : ∃ W, w.alloc (.cells (madeCells #[.int .u8 0] nn) 5) = W := ⟨_, rfl⟩
  have H1 : Hid (MdRow W1 w.heap.size nn (List.replicate nn 0) ∧ Below w.heap.size w W1) := by
    refine ⟨⟨?_, by simp, fun z hz => by simp at hz; omega⟩, hW1 ▸ (Below.refl _ w).alloc (Nat.le_refl _) _⟩
    rw [← hW1, heap_alloc_new, made_u8]
  rw [hW1]
  clear hW1
  go_loopw [6] (fun i wr => ∃ (k : Nat) (zs : List Nat), i = .int .i64 k ∧ k ≤ nn ∧ MdRow wr w.heap.size nn zs ∧ Below w.heap.size w wr) (fun i _ => nn - (intOf i).toNat)
  case atStart => exact ⟨0, _, rfl, Nat.zero_le _, H1.out.1, H1.out.2⟩
  case round =>
    obtain ⟨k, zs, rfl, hk, hM, hB⟩ := hrel
    have HR : Hid (MdRow wr w.heap.size nn zs ∧ Below w.heap.size w wr) := ⟨hM, hB⟩
    clear hM hB
    by_cases hlt : k < nn
    · by_cases hkl : k < l
      · obtain ⟨b, off, x, e, hc, hx⟩ := (HU.out.below HR.out.2) k hkl
        subst e
        obtain ⟨z, hz⟩ : ∃ z : Nat, x % 3 = z := ⟨(x % 3).toNat, by omega⟩
        have hz2 : z ≤ 2 := by omega
        have y0 := HR.out.1.get k hlt
        have y1 : wr.frozen? ⟨w.heap.size, k, none⟩ = false := by simp [World.frozen?, HR.out.1.1]
        go_wp2
        go_roundw
        case rel => exact ⟨k + 1, zs.set k z, by go_num, by omega, HR.out.1.set k z hz2, HR.out.2.setCell (p := ⟨w.heap.size, k, none⟩) (Nat.le_refl _) _⟩
        case measure => simp [intOf]; omega
      · go_wp2
        go_roundw
        case rel => exact ⟨k + 1, zs, by go_num, by omega, HR.out.1, HR.out.2⟩
        case measure => simp [intOf]; omega
    · obtain rfl : k = nn := by omega
      go_wp2
      go_ret
      exact ⟨w.heap.size, zs, rfl, HR.out.1, Nat.le_refl _, HR.out.2⟩
end Go.Proofs.Ybulkbciw
