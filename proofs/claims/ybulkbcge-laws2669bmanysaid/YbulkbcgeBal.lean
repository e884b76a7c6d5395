import Derived.Test.YbulkbcgeChunk
import Derived.Test.YbulkbcgeIns
namespace Go.Proofs.Ybulkbcge
open Go.RowKit
set_option linter.unusedSimpArgs false
set_option linter.unusedVariables false

set_option maxHeartbeats 800000 in
/-- slices.Clone at []int, of at least one element -/
theorem clone27_any (base g off n c : Nat) (cs : List Value) (w : World) (hl : cs.length = n) (hn : n ≤ 100000)
    (hc : ∀ i u, cs[i]? = some u → w.cell? ((⟨g, off, none⟩ : Addr).add i) = some u) (h1 : ∀ v ∈ cs, v.oneCell' = true) (hb : base ≤ w.heap.size) (hn0 : 0 < n) :
    Calls Yba.prog 27 #[.slice (some ⟨g, off, none⟩) n c] w fun e w' => ∃ g' c', e = .returned (.slice (some ⟨g', 0, none⟩) n c') ∧ w'.ownsRow base 3 1 (.slice (some ⟨g', 0, none⟩) n c') n cs ∧ w.grownBy w' none ∧ w.heap.size ≤ g' := by
  obtain ⟨i0, hi0, hz0, hz1, hz2⟩ := info_parts info3
  have hnil := fun (W : World) => Lib.run_eql_slice_nil (P := Yba.prog) W 22 3 (some ⟨g, off, none⟩) n c 0 0 Yba.underlying22
  have HL : Hid (cs.length = n * 1) := by show _ = _; omega
  have hgw : ∀ i u, cs[i]? = some u → g < w.heap.size := fun i u hi => by
    have := World.block_lt_of_cell? w _ (hc i u hi)
    rw [Addr.add_lit] at this; exact this
  have HC : Hid (∀ i u, cs[i]? = some u → (w.alloc (.cells #[] 3)).cell? ((⟨g, off, none⟩ : Addr).add i) = some u) := fun i u hi => by
    rw [Addr.add_lit, World.cell?_alloc_past _ _ _ (hgw i u hi)]
    have := hc i u hi
    rw [Addr.add_lit] at this; exact this
  have HO : Hid ((w.alloc (.cells #[] 3)).ownsRow base 3 1 (.slice (some ⟨w.heap.size, 0, none⟩) 0 0) 0 []) :=
    World.ownsRow_made w #[] 0 hb (Nat.zero_le _) rfl
  have hml : 0 + n ≤ maxLen := by unfold maxLen; omega
  have hmb : (0 + n) * 8 ≤ 140737488355328 := by omega
  have hbs : base ≤ (w.alloc (.cells #[] 3)).heap.size := by simp; omega
  clear hl hc hgw
  go_enter Yba.func27, Yba.ntmps27
  go_wp2_with (at_builtin; refine wpList_append_own2 _ rfl _ _ 22 22 rfl base 3 i0 (.int .i64 0) 1 8 Yba.underlying22 Yba.underlying22 hi0 hz0 hz1 hz2 rfl (by decide) _ _ _ rfl HO.out ⟨g, off, none⟩ n c cs rfl HL.out HC.out h1 hml hmb hbs hn0 ?_)
  intro v' w1 hown hgr H5
  have HO' : Hid (w1.ownsRow base 3 1 v' n cs) := (by simpa using hown : w1.ownsRow base 3 1 v' n cs)
  have HG : Hid (w.grownBy w1 none) := ⟨hgr.os, hgr.tape, hgr.output, Nat.le_trans (by simp) hgr.size, fun k hk _ => by
    rw [hgr.block k (by simp; omega) (by simp [Value.ownBlock]; omega), Below.heap_alloc w _ k hk]⟩
  clear hown hgr
  go_wp2
  go_ret
  obtain ⟨g', c', e1, e2⟩ := H5
  subst e1
  refine ⟨g', c', rfl, HO'.out, HG.out, ?_⟩
  simp [Value.ownBlock] at e2
  omega

/-- a chunk: its block, its capacity, its elements -/
abbrev Chk := Nat × Nat × List Int
def iv (xs : List Int) : List Value := xs.map (Value.int .i64)
def sv (k : Chk) : Value := .slice (some ⟨k.1, 0, none⟩) k.2.2.length k.2.1
theorem iv_one (xs : List Int) : ∀ v ∈ iv xs, v.oneCell' = true := by
  intro v hv
  simp only [iv, List.mem_map] at hv
  obtain ⟨a, _, rfl⟩ := hv
  rfl
theorem sv_one (K : List Chk) : ∀ v ∈ K.map sv, v.oneCell' = true := by
  intro v hv
  simp only [List.mem_map] at hv
  obtain ⟨a, _, rfl⟩ := hv
  rfl
theorem iv_length (xs : List Int) : (iv xs).length = xs.length := by simp [iv]

/-- the chunked value that lies in block bC: its row is block ga, of capacity C; its chunks are K -/
structure Store (base bC ga C : Nat) (K : List Chk) (w : World) : Prop where
  head : w.heap[bC]? = some (.cells #[.slice (some ⟨ga, 0, none⟩) K.length C] 30 (0, 0))
  row : w.ownsRow base 22 1 (.slice (some ⟨ga, 0, none⟩) K.length C) K.length (K.map sv)
  chk : ∀ k ∈ K, w.ownsRow base 3 1 (sv k) k.2.2.length (iv k.2.2)
  nodup : (K.map (·.1)).Nodup

theorem own_block {w : World} {base g n c : Nat} {e : TypeId} {cs : List Value} (h : w.ownsRow base e 1 (.slice (some ⟨g, 0, none⟩) n c) n cs) : ∃ cur, w.heap[g]? = some (.cells cur e (0, 0)) := by
  obtain ⟨cur, hg, _⟩ := own_row h
  exact ⟨_, hg⟩

section
variable {base bC ga C : Nat} {K : List Chk} {w w' : World}

theorem Store.kept (h : Store base bC ga C K w) {S : Nat → Prop} (f : Fr S w w') (h1 : ¬ S bC) (h2 : ¬ S ga) (h3 : ∀ k ∈ K, ¬ S k.1) : Store base bC ga C K w' :=
  ⟨by rw [f.block bC (lt_of_block h.head) h1]; exact h.head, f.owns h.row (fun k hk => by simp [Value.ownBlock] at hk; rw [← hk]; exact h2),
   fun k hk => f.owns (h.chk k hk) (fun j hj => by simp [sv, Value.ownBlock] at hj; rw [← hj]; exact h3 k hk), h.nodup⟩

theorem Store.ga_ne_bC (h : Store base bC ga C K w) : ga ≠ bC := fun e => by
  obtain ⟨cur, hg⟩ := own_block h.row
  rw [e, h.head] at hg; simp at hg
theorem Store.chk_ne_bC (h : Store base bC ga C K w) {k : Chk} (hk : k ∈ K) : k.1 ≠ bC := fun e => by
  obtain ⟨cur, hg⟩ := own_block (h.chk k hk)
  rw [e, h.head] at hg; simp at hg
theorem Store.chk_ne_ga (h : Store base bC ga C K w) {k : Chk} (hk : k ∈ K) : k.1 ≠ ga := fun e => by
  obtain ⟨cur, hg⟩ := own_block (h.chk k hk)
  obtain ⟨cur', hg'⟩ := own_block h.row
  rw [e, hg'] at hg; simp at hg
theorem Store.lt (h : Store base bC ga C K w) {k : Chk} (hk : k ∈ K) : k.1 < w.heap.size := by
  obtain ⟨cur, hg⟩ := own_block (h.chk k hk)
  exact lt_of_block hg
theorem Store.cell (h : Store base bC ga C K w) {i : Nat} {k : Chk} (hk : K[i]? = some k) : w.cell? ⟨ga, i, none⟩ = some (.slice (some ⟨k.1, 0, none⟩) k.2.2.length k.2.1) := by
  obtain ⟨cur, hg, _, ht⟩ := own_row h.row
  exact own_cell hg ht i _ (by simp [hk, sv])
theorem Store.elem (h : Store base bC ga C K w) {k : Chk} (hk : k ∈ K) (i : Nat) (hi : i < k.2.2.length) : w.cell? ⟨k.1, i, none⟩ = some (.int .i64 (k.2.2.getD i 0)) := by
  obtain ⟨cur, hg, _, ht⟩ := own_row (h.chk k hk)
  exact own_cell hg ht i _ (by simp [iv, hi])
end
end Go.Proofs.Ybulkbcge
