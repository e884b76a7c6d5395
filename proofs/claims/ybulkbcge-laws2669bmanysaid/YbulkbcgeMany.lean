import Derived.Test.YbulkbcgeRun
import Derived.OpenShut
namespace Go.Proofs.Ybulkbcge
open Go.RowKit
set_option linter.unusedSimpArgs false
set_option linter.unusedVariables false

theorem made_iv (n : Nat) : (madeCells #[Value.int .i64 0] n).toList = iv (List.replicate n 0) := by
  rw [toList_madeCells_one]
  simp [iv]

theorem iv_set (zs : List Int) (k : Nat) (e : Int) : (iv zs).set k (.int .i64 e) = iv (zs.set k e) := by simp [iv, List.map_set]

set_option maxHeartbeats 1600000 in
theorem many4 (a0 a1 a2 : Int) (a3 : Bool) (b0a : 0 ≤ a0) (b0b : a0 ≤ 65535) (b1a : 0 ≤ a1) (b1b : a1 ≤ 4294967295) (b2a : 0 ≤ a2) (b2b : a2 ≤ 255) (w : World) :
    Calls Yba.prog 4 #[.int .u16 a0, .int .u32 a1, .int .u8 a2, .bool a3] w fun e w' => e = .returned (.bool true) ∧ Below w.heap.size w w' := by
  obtain ⟨i0, hi0, hz0, hz1, hz2⟩ := info_parts info3
  obtain ⟨n, hn⟩ : ∃ n : Nat, (n : Int) = a0 % 1024 := ⟨(a0 % 1024).toNat, by omega⟩
  have hn1 : n ≤ 1023 := by omega
  have HN : Hid ((n : Int) = a0 % 1024) := hn
  have hbt : i0.bytes * n ≤ 281474976710656 := by rw [hz2]; omega
  have hml : n ≤ maxLen := by unfold maxLen; omega
  clear hn
  go_enter Yba.func4, Yba.ntmps4
  go_wp2_with (at_make; refine wpList_make_full _ rfl _ _ 22 rfl w.heap.size 3 i0 (.int .i64 0) 1 Yba.underlying22 hi0 hz0 hz1 .i64 .i64 _ _ n rfl rfl HN.out.symm HN.out.symm hbt hml (Nat.le_refl _) ?_)
  intro w1 hown hgr
  rw [made_iv] at hown
  have HO : Hid (w1.ownsRow w.heap.size 3 1 (.slice (some ⟨w.heap.size, 0, none⟩) n n) n (iv (List.replicate n 0)) ∧ w.grownBy w1 none) := ⟨hown, hgr⟩
  clear hown hgr
  rw [← HN.out]
  go_wp2
  go_loopw [12] (fun i wr => ∃ k : Nat, k ≤ n ∧ i = .int .i64 k ∧ (∃ zs : List Int, wr.ownsRow w.heap.size 3 1 (.slice (some ⟨w.heap.size, 0, none⟩) n n) n (iv zs)) ∧ Below w.heap.size w wr) (fun i _ => n - (intOf i).toNat)
  case atStart => exact ⟨0, Nat.zero_le _, rfl, ⟨_, HO.out.1⟩, (Below.refl _ w).grown HO.out.2 (Nat.le_refl _) (fun k hk => by simp at hk)⟩
  case round =>
    obtain ⟨k, hk, rfl, ⟨zs, hown⟩, hbel⟩ := hrel
    by_cases hlt : k < n
    · have hzl : zs.length = n := by have := hown.1; simpa [iv] using this
      have hc := hown.cellAt k (by omega)
      have hcell : wr.cell? ⟨w.heap.size, k, none⟩ = some (.int .i64 (zs.getD k 0)) := by rw [hc]; simp [iv, hzl, hlt]
      have hfz := hown.frozenAt k
      obtain ⟨y, hy⟩ : ∃ y, y = zs.getD k 0 := ⟨_, rfl⟩
      rw [← hy] at hcell
      have HR : Hid (wr.ownsRow w.heap.size 3 1 (.slice (some ⟨w.heap.size, 0, none⟩) n n) n (iv zs) ∧ Below w.heap.size w wr) := ⟨hown, hbel⟩
      have hz : (a2 + 1 == 0) = false := by simp; omega
      clear hown hbel hc hzl hy
      go_wp2
      go_roundw
      case rel => exact ⟨k + 1, by omega, by go_num, ⟨_, by rw [← iv_set]; exact (HR.out.1.stored k _).1⟩, HR.out.2.setCell (Nat.le_refl _) _⟩
      case measure => simp [intOf]; omega
    · have hzl : zs.length = n := by have := hown.1; simpa [iv] using this
      have hcs : ∀ t, t < n → ∃ b off, (some ⟨w.heap.size, 0, none⟩ : Option Addr) = some ⟨b, off, none⟩ ∧ b < wr.heap.size ∧ wr.cell? ⟨b, off + t, none⟩ = some (.int .i64 (zs.getD t 0)) := fun t ht => by
        have hc := hown.cellAt t (by omega)
        have hcell : wr.cell? ⟨w.heap.size, t, none⟩ = some (.int .i64 (zs.getD t 0)) := by rw [hc]; simp [iv, hzl, ht]
        exact ⟨_, _, rfl, World.block_lt_of_cell? wr _ hcell, by simpa using hcell⟩
      have HR : Hid ((∀ t, t < n → ∃ b off, (some ⟨w.heap.size, 0, none⟩ : Option Addr) = some ⟨b, off, none⟩ ∧ b < wr.heap.size ∧ wr.cell? ⟨b, off + t, none⟩ = some (.int .i64 (zs.getD t 0))) ∧ Below w.heap.size w wr) := ⟨hcs, hbel⟩
      clear hown hbel hcs hzl
      go_wp2_with (go_at_call 8; refine (run8_any _ n n zs a3 wr (by omega) HR.out.1).mono ?_; rintro e w2 ⟨rfl, hb⟩)
      go_ret
      exact ⟨rfl, HR.out.2.trans (hb.mono HR.out.2.size)⟩
end Go.Proofs.Ybulkbcge
