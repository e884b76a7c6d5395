import Derived.Test.YbulkbcgeState
namespace Go.Proofs.Ybulkbcge
open Go.RowKit
set_option linter.unusedSimpArgs false
set_option linter.unusedVariables false

/-- the state of the run behind t values -/
def RS (B : Nat) (d : Bool) (t : Nat) (mv : Value) (w : World) : Prop :=
  (t = 0 ∧ mv = .slice none 0 0 ∧ w.heap[B + 1]? = some (.cells #[.slice none 0 0] 30 (0, 0)) ∧ Tick (B + 1 + 1) B d 0 w ∧ B + 1 + 1 + 1 ≤ w.heap.size) ∨
  (0 < t ∧ ∃ ga C K m q bm cm, mv = .slice (some ⟨bm, 0, none⟩) t cm ∧ Full B d t ga C K m q bm cm w)

theorem rs_start (d : Bool) (w : World) : RS w.heap.size d 0 (.slice none 0 0) (((w.alloc (.cells #[.bool d] 4)).alloc (.cells #[.slice none 0 0] 30)).alloc (.cells #[.int .i64 0] 3)) ∧
    Below w.heap.size w (((w.alloc (.cells #[.bool d] 4)).alloc (.cells #[.slice none 0 0] 30)).alloc (.cells #[.int .i64 0] 3)) := by
  have e1 : (w.alloc (.cells #[.bool d] 4)).heap[w.heap.size]? = some (.cells #[.bool d] 4 (0, 0)) := heap_alloc_new _ _
  have e2 : ((w.alloc (.cells #[.bool d] 4)).alloc (.cells #[.slice none 0 0] 30)).heap[w.heap.size + 1]? = some (.cells #[.slice none 0 0] 30 (0, 0)) := by
    have := heap_alloc_new (w.alloc (.cells #[.bool d] 4)) (.cells #[.slice none 0 0] 30)
    simpa using this
  have e3 : (((w.alloc (.cells #[.bool d] 4)).alloc (.cells #[.slice none 0 0] 30)).alloc (.cells #[.int .i64 0] 3)).heap[w.heap.size + 1 + 1]? = some (.cells #[.int .i64 0] 3 (0, 0)) := by
    have := heap_alloc_new ((w.alloc (.cells #[.bool d] 4)).alloc (.cells #[.slice none 0 0] 30)) (.cells #[.int .i64 0] 3)
    simpa using this
  refine ⟨.inl ⟨rfl, rfl, ?_, ⟨e3, ?_⟩, by simp⟩, ?_⟩
  · rw [Below.heap_alloc _ _ _ (by simp)]; exact e2
  · rw [Below.heap_alloc _ _ _ (by simp; omega), Below.heap_alloc _ _ _ (by simp)]; exact e1
  · exact (((Below.refl _ w).alloc (Nat.le_refl _) _).alloc (by simp) _).alloc (by simp; omega) _

set_option maxHeartbeats 1600000 in
theorem run8_any (ao : Option Addr) (len cap : Nat) (zs : List Int) (d : Bool) (w : World) (hlen : len ≤ 1024)
    (hc : ∀ t, t < len → ∃ b off, ao = some ⟨b, off, none⟩ ∧ b < w.heap.size ∧ w.cell? ⟨b, off + t, none⟩ = some (.int .i64 (zs.getD t 0))) :
    Calls Yba.prog 8 #[.slice ao len cap, .bool d] w fun e w' => e = .returned (.bool true) ∧ Below w.heap.size w w' := by
  have HC : Hid (∀ t, t < len → ∃ b off, ao = some ⟨b, off, none⟩ ∧ b < w.heap.size ∧ w.cell? ⟨b, off + t, none⟩ = some (.int .i64 (zs.getD t 0))) := hc
  clear hc
  go_enter Yba.func8, Yba.ntmps8
  go_wp2
  go_loopw [6, 16] (fun mv i wr => ∃ t : Nat, t ≤ len ∧ i = .int .i64 t ∧ RS w.heap.size d t mv wr ∧ Below w.heap.size w wr) (fun _ i _ => len - (intOf i).toNat)
  case atStart => exact ⟨0, Nat.zero_le _, rfl, (rs_start d w).1, (rs_start d w).2⟩
  case round =>
    obtain ⟨t, ht, rfl, hrs, hbel⟩ := hrel
    by_cases hlt : t < len
    · obtain ⟨b, off, hao, hbw, hce⟩ := HC.out t hlt
      subst hao
      obtain ⟨v, hv⟩ : ∃ v, v = zs.getD t 0 := ⟨_, rfl⟩
      have hcv : wr.cell? ⟨b, off + t, none⟩ = some (.int .i64 v) := by rw [hbel.cell (p := ⟨b, off + t, none⟩) hbw, hv]; exact hce
      clear hv hce
      rcases hrs with ⟨h0, hmv, hcC, hT, hsz⟩ | ⟨ht0, ga, C, K, m, q, bm, cm, hmv, hf⟩
      · rw [hmv]
        clear hmv
        have c1 := cell_of_one hcC
        have c2 := cell_of_one hT.calls
        have HH : Hid (wr.heap[w.heap.size + 1]? = some (.cells #[.slice none 0 0] 30 (0, 0)) ∧ Tick (w.heap.size + 1 + 1) w.heap.size d 0 wr ∧ Below w.heap.size w wr ∧ t = 0) := ⟨hcC, hT, hbel, h0⟩
        clear hcC hT hbel h0
        go_wp2_with (first
          | (go_at_call 13; refine (insert_empty w.heap.size d _ wr HH.out.1 HH.out.2.1 hsz).mono ?_; rintro e w1 ⟨rfl, ga, C, K, hh, hb1⟩; have c3 := cell_of_one hh.tick.calls; have c4 := cell_of_one hh.tick.dir; have HF : Hid (Half w.heap.size d t ga C K [] v 0 (.slice none 0 0) w1 ∧ Below w.heap.size wr w1) := ⟨by rw [HH.out.2.2.2]; exact hh, hb1⟩; clear hh hb1)
          | (go_at_call 14; refine (put_half HF.out.1 (by omega)).mono ?_; rintro e w2 ⟨m', bm', cm', rfl, hf2, hb2⟩; have c5 := cell_of_one hf2.st.head; have HF2 : Hid (Full w.heap.size d (t + 1) ga C K m' 0 bm' cm' w2 ∧ Below w.heap.size w1 w2) := ⟨hf2, hb2⟩; clear hf2 hb2)
          | (go_at_call 15; refine (full_check HF2.out.1 (by omega)).mono ?_; rintro e w3 ⟨rfl, rfl⟩))
        go_roundw
        case rel => exact ⟨t + 1, by omega, by go_num, .inr ⟨by omega, ga, C, K, m', 0, bm', cm', rfl, HF2.out.1⟩, (HH.out.2.2.1.trans HF.out.2).trans HF2.out.2⟩
        case measure => simp [intOf]; omega
      · rw [hmv]
        clear hmv
        have c1 := cell_of_one hf.st.head
        have c2 := cell_of_one hf.tick.calls
        have hKl : ((K.length : Int) == 0) = false := by
          have := hf.kpos
          have h2 : K.length ≠ 0 := fun e => this (List.eq_nil_of_length_eq_zero e)
          simp
          exact this
        have HH : Hid (Full w.heap.size d t ga C K m q bm cm wr ∧ Below w.heap.size w wr) := ⟨hf, hbel⟩
        clear hf hbel
        go_wp2_with (first
          | (go_at_call 13; refine (insert_full HH.out.1 (by omega) _).mono ?_; rintro e w1 ⟨rfl, ga', C', K', q', hh, hqq, hb1⟩; have c3 := cell_of_one hh.tick.calls; have c4 := cell_of_one hh.tick.dir; have hqb : (q' == q) = false := (by simp; omega); have HF : Hid (Half w.heap.size d t ga' C' K' m v q' (.slice (some ⟨bm, 0, none⟩) t cm) w1 ∧ Below w.heap.size wr w1) := ⟨hh, hb1⟩; clear hh hb1 hqq)
          | (go_at_call 14; refine (put_half HF.out.1 (by omega)).mono ?_; rintro e w2 ⟨m', bm', cm', rfl, hf2, hb2⟩; have c5 := cell_of_one hf2.st.head; have HF2 : Hid (Full w.heap.size d (t + 1) ga' C' K' m' q' bm' cm' w2 ∧ Below w.heap.size w1 w2) := ⟨hf2, hb2⟩; clear hf2 hb2)
          | (go_at_call 15; refine (full_check HF2.out.1 (by omega)).mono ?_; rintro e w3 ⟨rfl, rfl⟩))
        go_roundw
        case rel => exact ⟨t + 1, by omega, by go_num, .inr ⟨by omega, ga', C', K', m', q', bm', cm', rfl, HF2.out.1⟩, (HH.out.2.trans HF.out.2).trans HF2.out.2⟩
        case measure => simp [intOf]; omega
    · go_wp2
      go_ret
      exact ⟨rfl, hbel⟩
end Go.Proofs.Ybulkbcge
