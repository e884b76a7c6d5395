import Derived.Test.YbulkbciwK4
namespace Go.Proofs.Ybulkbciw
open Go.RowKit
set_option linter.unusedSimpArgs false
set_option linter.unusedVariables false

theorem cell_bl {w w' : World} (hb : Below w.heap.size w w') {a : Addr} {v : Value} (h : w.cell? a = some v) : w'.cell? a = some v := by
  rw [World.cell?_of_block (w := w) (hb.block _ (cell_lt h))]; exact h

/-- the leaves that came in, none of whose rows is longer than M -/
def Leafs (M : Nat) (w : World) (p : Option Addr) (n : Nat) : Prop := ∀ i, i < n → ∃ b off x q l c, p = some ⟨b, off, none⟩ ∧ w.cell? ⟨b, off + i * 2, none⟩ = some (.int .u8 x) ∧ w.cell? ⟨b, off + i * 2 + 1, none⟩ = some (.slice q l c) ∧ l ≤ M ∧ I8 w q l ∧ 0 ≤ x
/-- the middle sets that came in -/
def Mids (M : Nat) (w : World) (p : Option Addr) (n : Nat) : Prop := ∀ i, i < n → ∃ b off x q l c q2 l2 c2, p = some ⟨b, off, none⟩ ∧ w.cell? ⟨b, off + i * 3, none⟩ = some (.int .u8 x) ∧ w.cell? ⟨b, off + i * 3 + 1, none⟩ = some (.slice q l c) ∧ w.cell? ⟨b, off + i * 3 + 2, none⟩ = some (.slice q2 l2 c2) ∧
  l ≤ M ∧ l2 ≤ M ∧ I8 w q l ∧ Leafs M w q2 l2 ∧ 0 ≤ x

theorem Leafs.below {M : Nat} {w w' : World} {p : Option Addr} {n : Nat} (h : Leafs M w p n) (hb : Below w.heap.size w w') : Leafs M w' p n := fun i hi => by
  obtain ⟨b, off, x, q, l, c, e, c1, c2, hl, h8, h0⟩ := h i hi
  exact ⟨b, off, x, q, l, c, e, cell_bl hb c1, cell_bl hb c2, hl, h8.below hb, h0⟩
theorem Mids.below {M : Nat} {w w' : World} {p : Option Addr} {n : Nat} (h : Mids M w p n) (hb : Below w.heap.size w w') : Mids M w' p n := fun i hi => by
  obtain ⟨b, off, x, q, l, c, q2, l2, c2, e, c1, c3, c4, hl, hl2, h8, hf, h0⟩ := h i hi
  exact ⟨b, off, x, q, l, c, q2, l2, c2, e, cell_bl hb c1, cell_bl hb c3, cell_bl hb c4, hl, hl2, h8.below hb, hf.below hb, h0⟩
theorem Leafs.succ {M : Nat} {w : World} {b off k : Nat} (h : Leafs M w (some ⟨b, off, none⟩) k) {x : Int} {q : Option Addr} {l c : Nat} (c1 : w.cell? ⟨b, off + k * 2, none⟩ = some (.int .u8 x)) (c2 : w.cell? ⟨b, off + k * 2 + 1, none⟩ = some (.slice q l c)) (hl : l ≤ M) (h8 : I8 w q l) (h0 : 0 ≤ x) : Leafs M w (some ⟨b, off, none⟩) (k + 1) := by
  intro i hi
  by_cases hik : i = k
  · subst hik; exact ⟨b, off, x, q, l, c, rfl, c1, c2, hl, h8, h0⟩
  · exact h i (by omega)
theorem Mids.succ {M : Nat} {w : World} {b off k : Nat} (h : Mids M w (some ⟨b, off, none⟩) k) {x : Int} {q q2 : Option Addr} {l c l2 c2 : Nat} (c1 : w.cell? ⟨b, off + k * 3, none⟩ = some (.int .u8 x)) (c3 : w.cell? ⟨b, off + k * 3 + 1, none⟩ = some (.slice q l c)) (c4 : w.cell? ⟨b, off + k * 3 + 2, none⟩ = some (.slice q2 l2 c2)) (hl : l ≤ M) (hl2 : l2 ≤ M) (h8 : I8 w q l) (hf : Leafs M w q2 l2) (h0 : 0 ≤ x) : Mids M w (some ⟨b, off, none⟩) (k + 1) := by
  intro i hi
  by_cases hik : i = k
  · subst hik; exact ⟨b, off, x, q, l, c, q2, l2, c2, rfl, c1, c3, c4, hl, hl2, h8, hf, h0⟩
  · exact h i (by omega)

/-- what toobig leaves: where it says 'no' all rows are short -/
def TB (w : World) (p2 : Option Addr) (n1 n2 : Nat) (e : Ending) (w' : World) : Prop := ∃ r, e = .returned (.bool r) ∧ Below w.heap.size w w' ∧ (r = false → n1 ≤ 256 ∧ n2 ≤ 256 ∧ Mids 256 w p2 n2)

set_option maxHeartbeats 2000000 in
set_option maxRecDepth 10000 in
theorem toobig19 (p1 p2 : Option Addr) (n1 c1 n2 c2 : Nat) (w : World) (h1 : n1 ≤ 9223372036854775807) (h2 : n2 ≤ 9223372036854775807) (h : Mids 9223372036854775807 w p2 n2) :
    Calls Yba.prog 19 #[.slice p1 n1 c1, .slice p2 n2 c2] w fun e w' => TB w p2 n1 n2 e w' := by
  have HM : Hid (Mids 9223372036854775807 w p2 n2) := h
  clear h
  by_cases hb1 : 256 < n1
  · go_enter Yba.func19, Yba.ntmps19
    go_wp2
    go_ret
    exact ⟨true, rfl, Below.refl _ _, fun h => by cases h⟩
  · by_cases hb2 : 256 < n2
    · go_enter Yba.func19, Yba.ntmps19
      go_wp2
      go_ret
      exact ⟨true, rfl, Below.refl _ _, fun h => by cases h⟩
    · go_enter Yba.func19, Yba.ntmps19
      go_wp2
      go_loopw [19] (fun i wr => ∃ k : Nat, i = .int .i64 k ∧ k ≤ n2 ∧ Below w.heap.size w wr ∧ Mids 256 w p2 k) (fun i _ => n2 - (intOf i).toNat)
      case atStart => exact ⟨0, rfl, Nat.zero_le _, Below.refl _ _, fun i hi => by omega⟩
      case round =>
        obtain ⟨k, rfl, hk, hb, hmk⟩ := hrel
        have HK : Hid (Below w.heap.size w wr ∧ Mids 256 w p2 k) := ⟨hb, hmk⟩
        clear hmk
        by_cases hlt : k < n2
        · obtain ⟨b, off, x, q, l, c, q2, l2, c2', e, d1, d3, d4, hl, hl2, h8, hf, hx0⟩ := HM.out k hlt
          subst e
          have HD : Hid (w.cell? ⟨b, off + k * 3, none⟩ = some (.int .u8 x) ∧ w.cell? ⟨b, off + k * 3 + 1, none⟩ = some (.slice q l c) ∧ w.cell? ⟨b, off + k * 3 + 2, none⟩ = some (.slice q2 l2 c2') ∧ I8 w q l ∧ Leafs 9223372036854775807 w q2 l2) := ⟨d1, d3, d4, h8, hf⟩
          replace d1 := cell_bl hb d1
          replace d3 := cell_bl hb d3
          replace d4 := cell_bl hb d4
          clear hb h8 hf
          by_cases hb3 : 256 < l
          · go_wp2
            go_ret
            exact ⟨true, rfl, HK.out.1.alloc HK.out.1.size _, fun h => by cases h⟩
          · by_cases hb4 : 256 < l2
            · go_wp2
              go_ret
              exact ⟨true, rfl, HK.out.1.alloc HK.out.1.size _, fun h => by cases h⟩
            · go_wp2
              obtain ⟨wo, hwo⟩ : ∃ wo : World, wo = wr := ⟨_, rfl⟩
              rw [← hwo] at HK d1 d3 d4 ⊢
              clear hwo
              go_loopw [36] (fun i wr => ∃ k3 : Nat, i = .int .i64 k3 ∧ k3 ≤ l2 ∧ Below w.heap.size w wr ∧ Leafs 256 w q2 k3) (fun i _ => l2 - (intOf i).toNat)
              case atStart => exact ⟨0, rfl, Nat.zero_le _, HK.out.1.alloc HK.out.1.size _, fun i hi => by omega⟩
              case round =>
                obtain ⟨k3, rfl, hk3, hb, hlk⟩ := hrel
                have HL : Hid (Below w.heap.size w wr ∧ Leafs 256 w q2 k3) := ⟨hb, hlk⟩
                clear hlk
                by_cases hlt3 : k3 < l2
                · obtain ⟨b5, off5, x5, q5, l5, c5, e, f1, f2, hl5, h85, hx5⟩ := HD.out.2.2.2.2 k3 hlt3
                  subst e
                  have HF : Hid (w.cell? ⟨b5, off5 + k3 * 2, none⟩ = some (.int .u8 x5) ∧ w.cell? ⟨b5, off5 + k3 * 2 + 1, none⟩ = some (.slice q5 l5 c5) ∧ I8 w q5 l5) := ⟨f1, f2, h85⟩
                  replace f1 := cell_bl hb f1
                  replace f2 := cell_bl hb f2
                  clear hb h85
                  by_cases hb5 : 256 < l5
                  · go_wp2
                    go_ret
                    exact ⟨true, rfl, HL.out.1.alloc HL.out.1.size _, fun h => by cases h⟩
                  · go_wp2
                    go_roundw
                    case rel => exact ⟨k3 + 1, by go_num, by omega, HL.out.1.alloc HL.out.1.size _, HL.out.2.succ HF.out.1 HF.out.2.1 (by omega) HF.out.2.2 hx5⟩
                    case measure => simp [intOf]; omega
                · obtain rfl : k3 = l2 := by omega
                  clear hb
                  go_wp2
                  go_roundw
                  case rel => exact ⟨k + 1, by go_num, by omega, HL.out.1, HK.out.2.succ HD.out.1 HD.out.2.1 HD.out.2.2.1 (by omega) (by omega) HD.out.2.2.2.1 HL.out.2 hx0⟩
                  case measure => simp [intOf]; omega
        · obtain rfl : k = n2 := by omega
          clear hb
          go_wp2
          go_ret
          exact ⟨false, rfl, HK.out.1, fun _ => ⟨by omega, by omega, HK.out.2⟩⟩
end Go.Proofs.Ybulkbciw
