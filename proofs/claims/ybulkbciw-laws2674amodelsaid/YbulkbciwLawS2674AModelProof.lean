/- 'Rows.LawS2674AModelSaid': the frame is the kit's proof-skeleton's, the walk is ours. -/
import Derived.Test.YbulkbciwRows
import Derived.WalkKit
import Derived.ProofKit
import Derived.OpenShut
import Derived.ShutString
import Derived.ChangeOld
import Derived.Below
import Derived.Deep.Slices
import Derived.Deep.Strs
import Derived.Test.YbulkbciwB6
namespace Go.Proofs.Ybulkbciw.lawS2674AModel
open Go.ChangeShapes Go.WideShapes Go.ChangeAt Go.RowKit Go.Deep
set_option linter.unusedVariables false
set_option linter.unusedSimpArgs false

theorem own : ownKnob Yba.prog.godebug = none := by kernel_rfl
theorem laidOut : laidOutB Yba.prog = true := by kernel_rfl
theorem cells25 : Yba.prog.cellsOf 25 = 3 := by kernel_rfl
theorem cells5 : Yba.prog.cellsOf 5 = 1 := by kernel_rfl
theorem cells22 : Yba.prog.cellsOf 22 = 1 := by kernel_rfl
theorem cells23 : Yba.prog.cellsOf 23 = 1 := by kernel_rfl

theorem spotless {w : World} {a : Addr} {v : Value} (h : w.cell? a = some v) : ∃ b off, a = ⟨b, off, none⟩ := by
  obtain ⟨b, off, sp⟩ := a
  have hs : sp = none := by
    unfold World.cell? at h
    split at h
    · split at h
      · cases h
      · rename_i hs; simpa using hs
    · cases h
  exact ⟨b, off, by rw [hs]⟩
theorem add_zero' (x : Addr) : x.add 0 = x := by simp [Addr.add]
theorem u8_of {z : Int} (h : (Lit.int .u8 z).wf = true) : 0 ≤ z ∧ z ≤ 255 := by
  simp only [Lit.wf, Bool.and_eq_true, decide_eq_true_eq] at h
  obtain ⟨h1, h2⟩ := h
  have h1' : (0 : Int) ≤ z := h1
  have h2' : z ≤ 255 := h2
  exact ⟨h1', h2'⟩

section
variable {H : Type} {enc : TypeId × Value → H} {W : World} {base : Nat} {sp : Nat → Bool} {fuel : Nat} {v : Value} {y : DataW H × List MemPlace}

theorem ub_of (h : DataW.trod enc Yba.prog W base sp true fuel 22 [v] = some y) : ∃ q l c, v = .slice q l c ∧ l ≤ 9223372036854775807 ∧ UB W q l := by
  rcases open_ints Yba.underlying22 Yba.underlying5 cells5 h with ⟨hcs, _⟩ | ⟨x, l, c, zs, hcs, _, hl, hm, hz, _, hcell, hwz⟩
  · simp at hcs
    exact ⟨none, 0, 0, hcs, by omega, fun i hi => by omega⟩
  · simp at hcs
    unfold maxLen at hm
    have hzl : l ≤ zs.length := by rw [hz]; split <;> omega
    refine ⟨some x, l, c, hcs, by omega, fun i hi => ?_⟩
    have h3 := hcell i (by omega)
    obtain ⟨b, off, rfl⟩ := spotless (by have h := hcell 0 (by omega); rw [add_zero'] at h; exact h)
    rw [add_none] at h3
    have h4 := u8_of (hwz (zs.getD i 0) (by rw [List.getD_eq_getElem?_getD, List.getElem?_eq_getElem (show i < zs.length by omega)]; exact List.getElem_mem _))
    exact ⟨b, off, _, rfl, h3, h4.1, h4.2⟩
end

section
variable {H : Type} {enc : TypeId × Value → H} {W : World} {base : Nat} {sp : Nat → Bool}

set_option maxRecDepth 100000 in
/-- a set's three cells -/
theorem set_of {d : Nat} {fuel : Nat} {cs : List Value} {y : DataW H × List MemPlace} (rec : ∀ (fuel : Nat) (v : Value) (y : DataW H × List MemPlace), DataW.trod enc Yba.prog W base sp true fuel 23 [v] = some y → ∃ q l c, v = .slice q l c ∧ l ≤ 9223372036854775807 ∧ Ins d W q l)
    (h : DataW.trod enc Yba.prog W base sp true fuel 25 cs = some y) : ∃ x q n c q2 n2 c2, cs = [.int .u8 x, .slice q n c, .slice q2 n2 c2] ∧ n ≤ 9223372036854775807 ∧ n2 ≤ 9223372036854775807 ∧ UB W q n ∧ Ins d W q2 n2 ∧ 0 ≤ x ∧ x ≤ 255 := by
  obtain ⟨y0, y1, y2, k, _, hlen, u0, u1, u2⟩ := trod_struct3 Yba.underlying25 h
  rw [cells25] at hlen
  match cs, hlen with
  | [v0, v1, v2], _ =>
    simp only [cells5, cells22, cells23, List.drop, List.take] at u0 u1 u2
    obtain ⟨z, e0, _, hz⟩ := DataW.trod_int Yba.underlying5 u0
    simp only [List.cons.injEq, and_true] at e0
    subst e0
    obtain ⟨q, l, c, rfl, hl, h8⟩ := ub_of u1
    obtain ⟨q2, l2, c2, rfl, hl2, hf⟩ := rec _ _ _ u2
    have hz2 := u8_of hz
    exact ⟨z, q, l, c, q2, l2, c2, rfl, hl, hl2, h8, hf, hz2.1, hz2.2⟩

set_option maxRecDepth 100000 in
theorem ins_of : (d : Nat) → (fuel : Nat) → (v : Value) → (y : DataW H × List MemPlace) → DataW.trod enc Yba.prog W base sp true fuel 23 [v] = some y → ∃ q l c, v = .slice q l c ∧ l ≤ 9223372036854775807 ∧ Ins d W q l
  | 0, fuel, v, y, h => by
    rcases open_slice Yba.underlying23 h with ⟨hcs, _⟩ | ⟨a, len, cap, m, n, D, Pl, hcs, hb, hl, hm, hmm, _, hx⟩
    · simp at hcs
      exact ⟨none, 0, 0, hcs, by omega, trivial⟩
    · simp at hcs
      unfold maxLen at hm
      exact ⟨some a, len, cap, hcs, by omega, trivial⟩
  | d + 1, fuel, v, y, h => by
    rcases open_slice Yba.underlying23 h with ⟨hcs, _⟩ | ⟨a, len, cap, m, n, D, Pl, hcs, hb, hl, hm, hmm, _, hx⟩
    · simp at hcs
      exact ⟨none, 0, 0, hcs, by omega, fun i hi => by omega⟩
    · simp at hcs
      unfold maxLen at hm
      have hlm : len ≤ m := by rw [hmm]; split <;> omega
      have each : ∀ i, i < m → ∃ x q n c q2 n2 c2, W.cell? (a.add (i * 3)) = some (.int .u8 x) ∧ W.cell? ((a.add (i * 3)).add 1) = some (.slice q n c) ∧ W.cell? ((a.add (i * 3)).add 2) = some (.slice q2 n2 c2) ∧ n ≤ 9223372036854775807 ∧ n2 ≤ 9223372036854775807 ∧ UB W q n ∧ Ins d W q2 n2 ∧ 0 ≤ x ∧ x ≤ 255 := by
        intro i hi
        obtain ⟨cs', h1, h2⟩ := hx i hi
        rw [cells25] at h1
        obtain ⟨_, hlen, hcell⟩ := World.cells?_some h1
        obtain ⟨x, q, n, c, q2, n2, c2, rfl, r⟩ := set_of (fun fuel v y h => ins_of d fuel v y h) h2
        have c0 := hcell 0 (by omega)
        have c1 := hcell 1 (by omega)
        have c2' := hcell 2 (by omega)
        rw [add_zero'] at c0
        exact ⟨x, q, n, c, q2, n2, c2, by simpa using c0, by simpa using c1, by simpa using c2', r⟩
      refine ⟨some a, len, cap, hcs, by omega, fun i hi => ?_⟩
      obtain ⟨v00, h00⟩ : ∃ v, W.cell? a = some v := by obtain ⟨_, _, _, _, _, _, _, h, _⟩ := each 0 (by omega); rw [Nat.zero_mul, add_zero'] at h; exact ⟨_, h⟩
      obtain ⟨b, off, rfl⟩ := spotless h00
      obtain ⟨x, q, n, c, q2, n2, c2, c0, c1, c3, r⟩ := each i (by omega)
      rw [add_none] at c0
      rw [add_none, add_none] at c1 c3
      exact ⟨b, off, x, q, n, c, q2, n2, c2, rfl, c0, c1, c3, r⟩
end

/-! ### THE ROW's STEP -/
set_option maxRecDepth 100000 in
theorem lifted (os : Os) (started : os.Started) (H : Type) (enc : TypeId × Value → H) :
    ReturnsInHanded {} Yba.checked os 3 .any (Rows.lawS2674AModelSpec.pre6 enc Yba.prog Yba.f3 Rows.lawS2674AModelRow.domain false) (Rows.lawS2674AModelSpec.post enc Yba.prog Yba.f3 false true false false) := by
  refine returnsInHanded_of_change (C := Yba.checked) own started (by kernel_rfl) Yba.func3
    (ChangeSpec.witness6 (enc := enc) (C := Yba.checked) false ⟨#[], #[.agg #[.int .u8 0, .slice none 0 0, .slice none 0 0], .slice none 0 0, .int .u8 0, .int .u8 0, .bool false], []⟩ 8 (by kernel_rfl) (by kernel_rfl) (by kernel_rfl) (by kernel_rfl)) ?_
  intro W base args ds gs before hval0 hW hcnd _
  have hval : ∀ (j : Nat) t v, Yba.f3.params[j]? = some t → args[j]? = some v → Value.okWide Yba.prog W .any base t v := hval0
  have hW' := hW
  obtain ⟨p, q, hA0, hV, rfl, hfz, hnd⟩ := hW
  have hA : DataW.TrodAll enc Yba.prog W 0 (fun _ => true) true Yba.f3.params.toList args.toList ds p := hA0
  rw [Yba.params3] at hA hval
  obtain ⟨v0, vs0, d0, ds0, p0, q0, hargs, rfl, rfl, h0, r0⟩ := trodAll_cons hA
  obtain ⟨v1, vs1, d1, ds1, p1, q1, rfl, rfl, rfl, h1, r1⟩ := trodAll_cons r0
  obtain ⟨v2, vs2, d2, ds2, p2, q2, rfl, rfl, rfl, h2, r2⟩ := trodAll_cons r1
  obtain ⟨v3, vs3, d3, ds3, p3, q3, rfl, rfl, rfl, h3, r3⟩ := trodAll_cons r2
  obtain ⟨v4, vs4, d4, ds4, p4, q4, rfl, rfl, rfl, h4, r4⟩ := trodAll_cons r3
  obtain ⟨rfl, rfl, rfl⟩ := trodAll_nil r4
  obtain rfl : args = #[v0, v1, v2, v3, v4] := by cases args; simp_all
  obtain ⟨rfl, rfl⟩ := trodVars_none hV
  obtain ⟨cs0, rfl, hsz0⟩ := okWide_struct Yba.underlying25 (hval 0 25 v0 rfl rfl)
  obtain ⟨a1, len1, cap1, rfl⟩ := okWide_slice Yba.underlying22 (hval 1 22 v1 rfl rfl)
  have k0 := h0
  have k1 := h1
  have lt0 : ∀ x ∈ p0, x.block < W.heap.size := by obtain ⟨m, hm⟩ := k0; exact DataW.trod_lt m _ _ _ hm
  have lt1 : ∀ x ∈ p1, x.block < W.heap.size := by obtain ⟨m, hm⟩ := k1; exact DataW.trod_lt m _ _ _ hm
  obtain ⟨x, q', n, c, q2', n2, c2, hcs0, hn, hn2, hu, hi, hx, hx2⟩ : ∃ x q n c q2 n2 c2, cs0 = #[.int .u8 x, .slice q n c, .slice q2 n2 c2] ∧ n ≤ 9223372036854775807 ∧ n2 ≤ 9223372036854775807 ∧ UB W q n ∧ Ins 3 W q2 n2 ∧ 0 ≤ x ∧ x ≤ 255 := by
    obtain ⟨fuel, hf⟩ := h0
    obtain ⟨x, q, n, c, q2, n2, c2, e, r⟩ := set_of (fun fuel v y h => ins_of 3 fuel v y h) hf
    refine ⟨x, q, n, c, q2, n2, c2, ?_, r⟩
    have e' : cs0.toList = [.int .u8 x, .slice q n c, .slice q2 n2 c2] := by simpa [Value.cells] using e
    apply Array.ext'
    rw [e']
  subst hcs0
  obtain ⟨m1, hM⟩ : len1 ≤ 9223372036854775807 ∧ UB W a1 len1 := by
    obtain ⟨fuel, hf⟩ := h1
    obtain ⟨q, l, c, e, hl, h8⟩ := ub_of (by simpa [Value.cells] using hf)
    cases e
    exact ⟨hl, h8⟩
  obtain ⟨xn, rfl, rfl, rfl, hxn⟩ := open_int Yba.underlying5 (hval 2 5 v2 rfl rfl) h2
  obtain ⟨xl, rfl, rfl, rfl, hxl⟩ := open_int Yba.underlying5 (hval 3 5 v3 rfl rfl) h3
  obtain ⟨D, rfl, rfl, rfl⟩ := open_bool Yba.underlying4 (hval 4 4 v4 rfl rfl) h4
  clear hA0 hval0
  have bn := u8_of hxn
  have bl := u8_of hxl
  refine (law3 x q' n c q2' n2 c2 a1 len1 cap1 xn xl D W hu hi hM hx hx2 hn hn2 m1 bn.1 bn.2 bl.1 bl.2).mono fun e W' ⟨he, bel⟩ => ?_
  subst he
  exact ⟨_, rfl, _, _, _, [], _, [], hW', trodAll_mk1 (shut_bool Yba.underlying4 _), (trodAll_cons_mk (Below.trod laidOut (by kernel_rfl) (of_decide_eq_true (by kernel_rfl)) k0 bel lt0) (trodAll_cons_mk (Below.trod laidOut (by kernel_rfl) (of_decide_eq_true (by kernel_rfl)) k1 bel lt1) (trodAll_cons_mk (shut_int Yba.underlying5 hxn) (trodAll_cons_mk (shut_int Yba.underlying5 hxl) (trodAll_cons_mk (shut_bool Yba.underlying4 _) trodAll_mk0))))), rfl, bel.frame _, fun h => by cases h⟩

theorem over : Rows.lawS2674AModelRow.holds Yba.pinned (OpenSpec.ofChange Rows.lawS2674AModelSpec) :=
  OpenClaim.holds_of_wide 3 Yba.f3 rfl rfl rfl rfl rfl rfl rfl ⟨rfl, rfl, rfl, rfl, rfl⟩ rfl rfl rfl rfl rfl (by kernel_rfl) Yba.func3 (by kernel_rfl)
    (of_decide_eq_true (by kernel_rfl)) (by unfold Func.isWrapper; first | (rw [if_pos (by decide +kernel)]; kernel_rfl) | (rw [if_neg (by decide +kernel)]; exact ⟨rfl, rfl⟩))
    (fun os started H enc _ => lifted os started H enc)

/-- ████ THE STATEMENT ████ -/
theorem proved : Rows.LawS2674AModelSaid := over
end Go.Proofs.Ybulkbciw.lawS2674AModel
