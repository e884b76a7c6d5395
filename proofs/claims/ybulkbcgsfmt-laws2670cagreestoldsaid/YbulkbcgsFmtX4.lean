import Derived.Test.YbulkbcgsFmtX3
namespace Go.Proofs.YbulkbcgsFmt
open Go.RowKit
set_option linter.unusedSimpArgs false
set_option linter.unusedVariables false
attribute [local go_sem ↓] Go.wp_at_zero Go.wp_at_succ
attribute [local go_sem] run_store_float

set_option maxHeartbeats 400000 in
theorem mode5 (sel : Int) (raw : ByteArray) (w : World) (e0 : 0 ≤ sel) (e1 : sel < 256) :
    Calls Ybaf.prog 5 #[.int .u8 sel, .string raw] w fun e w' => (∃ md, e = .returned (.string md)) ∧ w = w' := by
  by_cases h0 : sel % 3 = 0
  · go_enter Ybaf.func5, Ybaf.ntmps5
    go_wp2
    go_ret
    exact ⟨⟨_, rfl⟩, rfl⟩
  · by_cases h1 : sel % 3 = 1
    · go_enter Ybaf.func5, Ybaf.ntmps5
      go_wp2
      go_ret
      exact ⟨⟨_, rfl⟩, rfl⟩
    · go_enter Ybaf.func5, Ybaf.ntmps5
      go_wp2
      go_ret
      exact ⟨⟨_, rfl⟩, rfl⟩

/-- what newModeRun made: the fresh ledger where all is in range, else nothing and an error -/
def Made (md : ByteArray) (n d : Int) (b mx ini pr : Nat) (q : Option Addr) (f : Nat) (e : Value) (w : World) : Prop :=
  ((modeB md = true ∧ OkInst n b mx ini ∧ OkRun d pr) ∧ e = .nilIface ∧ f = 9218868437227405312 ∧ ∃ g, q = some ⟨g, 0, none⟩ ∧ w.heap[g]? = some (.cells (ledgerCells md n b mx ini d pr (floatOfInt .f64 n) (minutesOf d) (earnOf b n d)) 53 (0, 0))) ∨
  (¬ (modeB md = true ∧ OkInst n b mx ini ∧ OkRun d pr) ∧ q = none ∧ f = 0 ∧ ∃ t v, e = .iface t v)

theorem Made.alloc {md : ByteArray} {n d : Int} {b mx ini pr : Nat} {q : Option Addr} {f : Nat} {e : Value} {w : World} (h : Made md n d b mx ini pr q f e w) (o : Obj) : Made md n d b mx ini pr q f e (w.alloc o) := by
  rcases h with ⟨h1, h2, h3, g, h4, h5⟩ | h
  · exact .inl ⟨h1, h2, h3, g, h4, by rw [Below.heap_alloc _ _ _ (lt_of_block h5)]; exact h5⟩
  · exact .inr h

theorem nmr6_any (nm md : ByteArray) (n d tv : Int) (b mx ini pr price : Nat) (pa : Option Addr) (pl pc : Nat) (w : World) (hn2 : n ≤ 9223372036854775807) (hd2 : d ≤ 9223372036854775807) :
    Calls Ybaf.prog 6 #[.agg #[.string nm, .int .i64 n, .float .f64 b, .float .f64 mx, .float .f64 ini, .float .f64 price], .string md, .agg #[.int .i64 tv, .int .i64 d, .float .f64 pr, .slice pa pl pc]] w fun e w' =>
      ∃ q f x, e = .returned (.tuple #[.agg #[.pointer q, .float .f64 f], x]) ∧ Made md n d b mx ini pr q f x w' ∧ Below w.heap.size w w' := by
  by_cases h : modeB md = true ∧ OkInst n b mx ini ∧ OkRun d pr
  · obtain ⟨h1, ⟨i1, i2, i3, i4, i5, s, i6, i7⟩, r1, r2⟩ := h
    refine (nmr6_ok nm md n d tv b mx ini pr price s pa pl pc w h1 i1 hn2 i2 i3 i4 i5 i6 i7 r1 hd2 r2).mono ?_
    rintro e w' ⟨g, rfl, hg, hb, _⟩
    exact ⟨_, _, _, rfl, .inl ⟨⟨h1, ⟨i1, i2, i3, i4, i5, s, i6, i7⟩, r1, r2⟩, rfl, rfl, g, rfl, hg⟩, hb⟩
  · refine (nmr6_bad nm md n d tv b mx ini pr price pa pl pc w h).mono ?_
    rintro e w' ⟨t, v, rfl, hb⟩
    exact ⟨_, _, _, rfl, .inr ⟨h, rfl, rfl, t, v, rfl⟩, hb⟩

theorem check7_any (nm md : ByteArray) (n d tv : Int) (b mx ini pr price : Nat) (pa : Option Addr) (pl pc : Nat) (q : Option Addr) (f : Nat) (x : Value) (w : World) (hn2 : n ≤ 9223372036854775807) (hd2 : d ≤ 9223372036854775807) (h : Made md n d b mx ini pr q f x w) :
    Calls Ybaf.prog 7 #[.agg #[.string nm, .int .i64 n, .float .f64 b, .float .f64 mx, .float .f64 ini, .float .f64 price], .string md, .agg #[.int .i64 tv, .int .i64 d, .float .f64 pr, .slice pa pl pc], .agg #[.pointer q, .float .f64 f], x] w fun e w' =>
      e = .returned (.bool true) ∧ Below w.heap.size w w' := by
  rcases h with ⟨⟨h1, ⟨i1, i2, i3, i4, i5, s, i6, i7⟩, r1, r2⟩, rfl, rfl, g, rfl, hg⟩ | ⟨h, rfl, rfl, t, v, rfl⟩
  · exact check7_ok nm md n d tv b mx ini pr price s pa pl pc g w h1 i1 hn2 i2 i3 i4 i5 i6 i7 r1 hd2 r2 hg
  · exact check7_bad nm md n d tv b mx ini pr price pa pl pc t v w h

set_option maxHeartbeats 1600000 in
theorem agrees3 (nm raw : ByteArray) (n d tv sel : Int) (b mx ini pr price : Nat) (pa : Option Addr) (pl pc : Nat) (w : World) (e0 : 0 ≤ sel) (e1 : sel < 256) (hn2 : n ≤ 9223372036854775807) (hd2 : d ≤ 9223372036854775807) :
    Calls Ybaf.prog 3 #[.agg #[.string nm, .int .i64 n, .float .f64 b, .float .f64 mx, .float .f64 ini, .float .f64 price], .int .u8 sel, .string raw, .agg #[.int .i64 tv, .int .i64 d, .float .f64 pr, .slice pa pl pc]] w fun e w' =>
      e = .returned (.bool true) ∧ Below w.heap.size w w' := by
  go_enter Ybaf.func3, Ybaf.ntmps3
  go_wp2_with (first
    | (go_at_call 5; refine (mode5 sel raw _ e0 e1).mono ?_; rintro e w0 ⟨⟨md, rfl⟩, rfl⟩)
    | (go_at_call 6; refine (nmr6_any nm md n d tv b mx ini pr price pa pl pc _ hn2 hd2).mono ?_; rintro e w1 ⟨q, f, x, rfl, hm, hb⟩; obtain ⟨cA, cB, hbw, hsz⟩ := val_kept hb; obtain ⟨dA, dB⟩ := val_new cA cB hsz; have HG : Hid (Made md n d b mx ini pr q f x w1 ∧ Below w.heap.size w w1) := ⟨hm, hbw⟩; clear hm hb hbw)
    | (go_at_call 7; refine (check7_any nm md n d tv b mx ini pr price pa pl pc q f x _ hn2 hd2 (HG.out.1.alloc _)).mono ?_; rintro e w2 ⟨rfl, hb2⟩))
  go_ret
  exact ⟨rfl, (HG.out.2.alloc (by have := HG.out.2.size; omega) _).trans (hb2.mono (by have := HG.out.2.size; simp; omega))⟩
end Go.Proofs.YbulkbcgsFmt
