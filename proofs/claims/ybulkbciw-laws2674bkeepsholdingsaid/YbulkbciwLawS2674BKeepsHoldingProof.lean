/- 'Rows.LawS2674BKeepsHoldingSaid': the frame is the kit's proof-skeleton's, the walk is ours. -/
import Derived.Test.YbulkbciwRows
import Derived.WalkKit
import Derived.ProofKit
import Derived.OpenShut
import Derived.ShutString
import Derived.ChangeOld
import Derived.Below
import Derived.Deep.Slices
import Derived.Deep.Strs
import Derived.Test.YbulkbciwL2
namespace Go.Proofs.Ybulkbciw.lawS2674BKeepsHolding
open Go.ChangeShapes Go.WideShapes Go.ChangeAt Go.RowKit Go.Deep
set_option linter.unusedVariables false
set_option linter.unusedSimpArgs false

theorem own : ownKnob Yba.prog.godebug = none := by kernel_rfl
theorem laidOut : laidOutB Yba.prog = true := by kernel_rfl
theorem cells55 : Yba.prog.cellsOf 55 = 3 := by kernel_rfl
theorem cells57 : Yba.prog.cellsOf 57 = 2 := by kernel_rfl
theorem cells5 : Yba.prog.cellsOf 5 = 1 := by kernel_rfl
theorem cells41 : Yba.prog.cellsOf 41 = 1 := by kernel_rfl
theorem cells53 : Yba.prog.cellsOf 53 = 1 := by kernel_rfl
theorem cells72 : Yba.prog.cellsOf 72 = 1 := by kernel_rfl

theorem spotless {w : World} {a : Addr} {v : Value} (h : w.cell? a = some v) : ∃ b off, a = ⟨b, off, none⟩ := by
  obtain ⟨b, off, sp⟩ := a
  have hs : sp = none := by
    unfold World.cell? at h
    split at h
    · split at h
      · cases h
      · rename_i hs; simpa using hs
    · cases h
  exact ⟨b, off, by rw [hs]⟩
theorem add_zero' (x : Addr) : x.add 0 = x := by simp [Addr.add]

section
variable {H : Type} {enc : TypeId × Value → H} {W : World} {base : Nat} {sp : Nat → Bool} {fuel : Nat} {v : Value} {y : DataW H × List MemPlace}

theorem i8_of (h : DataW.trod enc Yba.prog W base sp true fuel 41 [v] = some y) : ∃ q l c, v = .slice q l c ∧ l ≤ 9223372036854775807 ∧ I8 W q l := by
  rcases open_ints Yba.underlying41 Yba.underlying72 cells72 h with ⟨hcs, _⟩ | ⟨x, l, c, zs, hcs, _, hl, hm, hz, _, hcell, hwz⟩
  · simp at hcs
    exact ⟨none, 0, 0, hcs, by omega, fun i hi => by omega⟩
  · simp at hcs
    unfold maxLen at hm
    have hzl : l ≤ zs.length := by rw [hz]; split <;> omega
    refine ⟨some x, l, c, hcs, by omega, fun i hi => ?_⟩
    have h3 := hcell i (by omega)
    obtain ⟨b, off, rfl⟩ := spotless (by have h := hcell 0 (by omega); rw [add_zero'] at h; exact h)
    rw [add_none] at h3
    exact ⟨b, off, _, rfl, h3⟩

set_option maxRecDepth 100000 in
theorem leafs_of (h : DataW.trod enc Yba.prog W base sp true fuel 53 [v] = some y) : ∃ q l c, v = .slice q l c ∧ l ≤ 9223372036854775807 ∧ Leafs 9223372036854775807 W q l := by
  rcases open_slice Yba.underlying53 h with ⟨hcs, _⟩ | ⟨a, len, cap, m, n, D, Pl, hcs, hb, hl, hm, hmm, _, hx⟩
  · simp at hcs
    exact ⟨none, 0, 0, hcs, by omega, fun i hi => by omega⟩
  · simp at hcs
    unfold maxLen at hm
    have hlm : len ≤ m := by rw [hmm]; split <;> omega
    have each : ∀ i, i < m → ∃ x q l c, W.cell? (a.add (i * 2)) = some (.int .u8 x) ∧ W.cell? ((a.add (i * 2)).add 1) = some (.slice q l c) ∧ l ≤ 9223372036854775807 ∧ I8 W q l ∧ 0 ≤ x := by
      intro i hi
      obtain ⟨cs', h1, h2⟩ := hx i hi
      rw [cells57] at h1
      obtain ⟨_, hlen, hcell⟩ := World.cells?_some h1
      obtain ⟨y0, y1, k, _, _, u0, u1⟩ := trod_struct2 Yba.underlying57 h2
      match cs', hlen with
      | [v0, v1], _ =>
        simp only [cells5, cells41, List.drop, List.take] at u0 u1
        obtain ⟨z, e0, _, hz⟩ := DataW.trod_int Yba.underlying5 u0
        simp only [List.cons.injEq, and_true] at e0
        subst e0
        obtain ⟨q, l, c, rfl, hl, h8⟩ := i8_of u1
        have c0 := hcell 0 (by omega)
        have c1 := hcell 1 (by omega)
        rw [add_zero'] at c0
        simp only [Lit.wf, Bool.and_eq_true, decide_eq_true_eq] at hz
        have hz0 : (0 : Int) ≤ z := hz.1
        exact ⟨z, q, l, c, by simpa using c0, by simpa using c1, hl, h8, hz0⟩
    refine ⟨some a, len, cap, hcs, by omega, fun i hi => ?_⟩
    obtain ⟨v00, h00⟩ : ∃ v, W.cell? a = some v := by obtain ⟨_, _, _, _, h, _⟩ := each 0 (by omega); rw [Nat.zero_mul, add_zero'] at h; exact ⟨_, h⟩
    obtain ⟨b, off, rfl⟩ := spotless h00
    obtain ⟨z, q, l, c, c0, c1, r⟩ := each i (by omega)
    rw [add_none] at c0
    rw [add_none, add_none] at c1
    exact ⟨b, off, z, q, l, c, rfl, c0, c1, r⟩

set_option maxRecDepth 100000 in
theorem mids_of (h : DataW.trod enc Yba.prog W base sp true fuel 42 [v] = some y) : ∃ q l c, v = .slice q l c ∧ l ≤ 9223372036854775807 ∧ Mids 9223372036854775807 W q l := by
  rcases open_slice Yba.underlying42 h with ⟨hcs, _⟩ | ⟨a, len, cap, m, n, D, Pl, hcs, hb, hl, hm, hmm, _, hx⟩
  · simp at hcs
    exact ⟨none, 0, 0, hcs, by omega, fun i hi => by omega⟩
  · simp at hcs
    unfold maxLen at hm
    have hlm : len ≤ m := by rw [hmm]; split <;> omega
    have each : ∀ i, i < m → ∃ x q l c q2 l2 c2, W.cell? (a.add (i * 3)) = some (.int .u8 x) ∧ W.cell? ((a.add (i * 3)).add 1) = some (.slice q l c) ∧ W.cell? ((a.add (i * 3)).add 2) = some (.slice q2 l2 c2) ∧ l ≤ 9223372036854775807 ∧ l2 ≤ 9223372036854775807 ∧ I8 W q l ∧ Leafs 9223372036854775807 W q2 l2 ∧ 0 ≤ x := by
      intro i hi
      obtain ⟨cs', h1, h2⟩ := hx i hi
      rw [cells55] at h1
      obtain ⟨_, hlen, hcell⟩ := World.cells?_some h1
      obtain ⟨y0, y1, y2, k, _, _, u0, u1, u2⟩ := trod_struct3 Yba.underlying55 h2
      match cs', hlen with
      | [v0, v1, v2], _ =>
        simp only [cells5, cells41, cells53, List.drop, List.take] at u0 u1 u2
        obtain ⟨z, e0, _, hz⟩ := DataW.trod_int Yba.underlying5 u0
        simp only [List.cons.injEq, and_true] at e0
        subst e0
        obtain ⟨q, l, c, rfl, hl, h8⟩ := i8_of u1
        obtain ⟨q2, l2, c2, rfl, hl2, hf⟩ := leafs_of u2
        have c0 := hcell 0 (by omega)
        have c1 := hcell 1 (by omega)
        have c2' := hcell 2 (by omega)
        rw [add_zero'] at c0
        simp only [Lit.wf, Bool.and_eq_true, decide_eq_true_eq] at hz
        have hz0 : (0 : Int) ≤ z := hz.1
        exact ⟨z, q, l, c, q2, l2, c2, by simpa using c0, by simpa using c1, by simpa using c2', hl, hl2, h8, hf, hz0⟩
    refine ⟨some a, len, cap, hcs, by omega, fun i hi => ?_⟩
    obtain ⟨v00, h00⟩ : ∃ v, W.cell? a = some v := by obtain ⟨_, _, _, _, _, _, _, h, _⟩ := each 0 (by omega); rw [Nat.zero_mul, add_zero'] at h; exact ⟨_, h⟩
    obtain ⟨b, off, rfl⟩ := spotless h00
    obtain ⟨z, q, l, c, q2, l2, c2, c0, c1, c3, r⟩ := each i (by omega)
    rw [add_none] at c0
    rw [add_none, add_none] at c1 c3
    exact ⟨b, off, z, q, l, c, q2, l2, c2, rfl, c0, c1, c3, r⟩
end

/-! ### THE ROW's STEP -/
set_option maxRecDepth 100000 in
theorem lifted (os : Os) (started : os.Started) (H : Type) (enc : TypeId × Value → H) :
    ReturnsInHanded {} Yba.checked os 5 .any (Rows.lawS2674BKeepsHoldingSpec.pre6 enc Yba.prog Yba.f5 Rows.lawS2674BKeepsHoldingRow.domain false) (Rows.lawS2674BKeepsHoldingSpec.post enc Yba.prog Yba.f5 false true false false) := by
  refine returnsInHanded_of_change (C := Yba.checked) own started (by kernel_rfl) Yba.func5
    (ChangeSpec.witness6 (enc := enc) (C := Yba.checked) false ⟨#[], #[.int .u8 0, .slice none 0 0, .slice none 0 0, .int .u64 0], []⟩ 8 (by kernel_rfl) (by kernel_rfl) (by kernel_rfl) (by kernel_rfl)) ?_
  intro W base args ds gs before hval0 hW hcnd _
  have hval : ∀ (j : Nat) t v, Yba.f5.params[j]? = some t → args[j]? = some v → Value.okWide Yba.prog W .any base t v := hval0
  have hW' := hW
  obtain ⟨p, q, hA0, hV, rfl, hfz, hnd⟩ := hW
  have hA : DataW.TrodAll enc Yba.prog W 0 (fun _ => true) true Yba.f5.params.toList args.toList ds p := hA0
  rw [Yba.params5] at hA hval
  obtain ⟨v0, vs0, d0, ds0, p0, q0, hargs, rfl, rfl, h0, r0⟩ := trodAll_cons hA
  obtain ⟨v1, vs1, d1, ds1, p1, q1, rfl, rfl, rfl, h1, r1⟩ := trodAll_cons r0
  obtain ⟨v2, vs2, d2, ds2, p2, q2, rfl, rfl, rfl, h2, r2⟩ := trodAll_cons r1
  obtain ⟨v3, vs3, d3, ds3, p3, q3, rfl, rfl, rfl, h3, r3⟩ := trodAll_cons r2
  obtain ⟨rfl, rfl, rfl⟩ := trodAll_nil r3
  obtain rfl : args = #[v0, v1, v2, v3] := by cases args; simp_all
  obtain ⟨rfl, rfl⟩ := trodVars_none hV
  obtain ⟨a1, len1, cap1, rfl⟩ := okWide_slice Yba.underlying41 (hval 1 41 v1 rfl rfl)
  obtain ⟨a2, len2, cap2, rfl⟩ := okWide_slice Yba.underlying42 (hval 2 42 v2 rfl rfl)
  have k1 := h1
  have k2 := h2
  have lt1 : ∀ x ∈ p1, x.block < W.heap.size := by obtain ⟨m, hm⟩ := k1; exact DataW.trod_lt m _ _ _ hm
  have lt2 : ∀ x ∈ p2, x.block < W.heap.size := by obtain ⟨m, hm⟩ := k2; exact DataW.trod_lt m _ _ _ hm
  obtain ⟨m1, hI⟩ : len1 ≤ 9223372036854775807 ∧ I8 W a1 len1 := by
    obtain ⟨fuel, hf⟩ := h1
    obtain ⟨q, l, c, e, hl, h8⟩ := i8_of (by simpa [Value.cells] using hf)
    cases e
    exact ⟨hl, h8⟩
  obtain ⟨m2, hM⟩ : len2 ≤ 9223372036854775807 ∧ Mids 9223372036854775807 W a2 len2 := by
    obtain ⟨fuel, hf⟩ := h2
    obtain ⟨q, l, c, e, hl, h8⟩ := mids_of (by simpa [Value.cells] using hf)
    cases e
    exact ⟨hl, h8⟩
  obtain ⟨x0, rfl, rfl, rfl, hx0⟩ := open_int Yba.underlying5 (hval 0 5 v0 rfl rfl) h0
  obtain ⟨mask, rfl, rfl, rfl, hmk⟩ := open_int Yba.underlying26 (hval 3 26 v3 rfl rfl) h3
  clear hA0 hval0
  have hx0' : (0 : Int) ≤ x0 := by simp only [Lit.wf, Bool.and_eq_true, decide_eq_true_eq] at hx0; exact hx0.1
  refine (law5 x0 a1 a2 len1 cap1 len2 cap2 mask W m1 m2 hI hM hx0').mono fun e W' ⟨he, bel⟩ => ?_
  subst he
  exact ⟨_, rfl, _, _, _, [], _, [], hW', trodAll_mk1 (shut_bool Yba.underlying4 _), (trodAll_cons_mk (shut_int Yba.underlying5 hx0) (trodAll_cons_mk (Below.trod laidOut (by kernel_rfl) (of_decide_eq_true (by kernel_rfl)) k1 bel lt1) (trodAll_cons_mk (Below.trod laidOut (by kernel_rfl) (of_decide_eq_true (by kernel_rfl)) k2 bel lt2) (trodAll_cons_mk (shut_int Yba.underlying26 hmk) trodAll_mk0)))), rfl, bel.frame _, fun h => by cases h⟩

theorem over : Rows.lawS2674BKeepsHoldingRow.holds Yba.pinned (OpenSpec.ofChange Rows.lawS2674BKeepsHoldingSpec) :=
  OpenClaim.holds_of_wide 5 Yba.f5 rfl rfl rfl rfl rfl rfl rfl ⟨rfl, rfl, rfl, rfl, rfl⟩ rfl rfl rfl rfl rfl (by kernel_rfl) Yba.func5 (by kernel_rfl)
    (of_decide_eq_true (by kernel_rfl)) (by unfold Func.isWrapper; first | (rw [if_pos (by decide +kernel)]; kernel_rfl) | (rw [if_neg (by decide +kernel)]; exact ⟨rfl, rfl⟩))
    (fun os started H enc _ => lifted os started H enc)

/-- ████ THE STATEMENT ████ -/
theorem proved : Rows.LawS2674BKeepsHoldingSaid := over
end Go.Proofs.Ybulkbciw.lawS2674BKeepsHolding
