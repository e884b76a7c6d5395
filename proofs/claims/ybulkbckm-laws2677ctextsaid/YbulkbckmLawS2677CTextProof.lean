/- 'Rows.LawS2677CTextSaid': the frame is the kit's proof-skeleton's, the walk is ours. -/
import Derived.Test.YbulkbckmRows
import Derived.WalkKit
import Derived.ProofKit
import Derived.OpenShut
import Derived.ShutString
import Derived.ChangeOld
import Derived.Below
import Derived.Deep.Matrix
import Derived.Test.YbulkbckmC1
namespace Go.Proofs.Ybulkbckm.lawS2677CText
open Go.ChangeShapes Go.WideShapes Go.ChangeAt Go.RowKit Go.Deep
set_option linter.unusedVariables false
set_option linter.unusedSimpArgs false

theorem own : ownKnob Yba.prog.godebug = none := by kernel_rfl
theorem laidOut : laidOutB Yba.prog = true := by kernel_rfl

theorem spotless {w : World} {a : Addr} {v : Value} (h : w.cell? a = some v) : ∃ b off, a = ⟨b, off, none⟩ := by
  obtain ⟨b, off, sp⟩ := a
  have hs : sp = none := by
    unfold World.cell? at h
    split at h
    · split at h
      · cases h
      · rename_i hs; simpa using hs
    · cases h
  exact ⟨b, off, by rw [hs]⟩
theorem add_none (b off i : Nat) : (⟨b, off, none⟩ : Addr).add i = ⟨b, off + i, none⟩ := by unfold Addr.add; split <;> simp_all
theorem Addr.add_zero' (x : Addr) : x.add 0 = x := by simp [Addr.add]

/-- a row of bytes that came in -/
theorem src_of {w : World} {a : Option Addr} {l : Nat} {zs : List Int} (hl : l ≤ zs.length) (hw : ∀ n ∈ zs, (Lit.int .u8 n).wf = true)
    (hc : 0 < zs.length → ∃ ad, a = some ad ∧ ∀ c, c < zs.length → w.cell? (ad.add c) = some (.int .u8 (zs.getD c 0))) : ∃ bs, Src w a l bs := by
  refine ⟨(zs.take l).map (fun z => UInt8.ofNat z.toNat), by simp [hl], fun h0 => ?_⟩
  obtain ⟨ad, e, h⟩ := hc (by omega)
  refine ⟨ad, e, fun j v hj => ?_⟩
  have hjl : j < l := by have := (List.getElem?_eq_some_iff.1 hj).1; rw [Lib.byteCells_length] at this; simp at this; omega
  rw [h j (by omega)]
  have hz := hw (zs[j]'(by omega)) (List.getElem_mem _)
  simp only [Lit.wf, Bool.and_eq_true, decide_eq_true_eq] at hz
  have h1 : (0 : Int) ≤ zs[j]'(by omega) := hz.1
  have h2 : zs[j]'(by omega) ≤ 255 := hz.2
  rw [← hj]
  simp only [Lib.byteCells, List.getElem?_map, List.getElem?_take_of_lt hjl, List.getElem?_eq_getElem (show j < zs.length by omega), Option.map_some, List.getD_eq_getElem?_getD, Option.getD_some]
  congr 2
  rw [UInt8.toNat_ofNat']
  omega

set_option maxRecDepth 100000 in
theorem walk (a0 a1 : Option Addr) (len0 cap0 len1 cap1 : Nat) (un : Bool) (w : World) (hI : Items w a0 len0) (hR : Reps w a1 len1) (m0 : len0 ≤ 9223372036854775807) (m1 : len1 ≤ 9223372036854775807) :
    Calls Yba.prog 3 #[.slice a0 len0 cap0, .slice a1 len1 cap1, .bool un] w fun e w' => e = .returned (.bool true) ∧ Below w.heap.size w w' := by
  by_cases hle : len0 ≤ 256
  · exact law3_walk a0 a1 len0 cap0 len1 cap1 un w hI hR hle m1
  · have hgt : 256 < (len0 : Int) := by omega
    clear hI hR
    go_enter Yba.func3, Yba.ntmps3
    go_wp2
    go_ret
    exact ⟨rfl, Below.refl _ _⟩

/-! ### THE ROW's STEP -/
set_option maxRecDepth 100000 in
theorem lifted (os : Os) (started : os.Started) (H : Type) (enc : TypeId × Value → H) :
    ReturnsInHanded {} Yba.checked os 3 .any (Rows.lawS2677CTextSpec.pre6 enc Yba.prog Yba.f3 Rows.lawS2677CTextRow.domain false) (Rows.lawS2677CTextSpec.post enc Yba.prog Yba.f3 false true false false) := by
  refine returnsInHanded_of_change (C := Yba.checked) own started (by kernel_rfl) Yba.func3
    (ChangeSpec.witness6 (enc := enc) (C := Yba.checked) false ⟨#[], #[.slice none 0 0, .slice none 0 0, .bool false], []⟩ 8 (by kernel_rfl) (by kernel_rfl) (by kernel_rfl) (by kernel_rfl)) ?_
  intro W base args ds gs before hval0 hW hcnd _
  have hval : ∀ (j : Nat) t v, Yba.f3.params[j]? = some t → args[j]? = some v → Value.okWide Yba.prog W .any base t v := hval0
  have hW' := hW
  obtain ⟨p, q, hA0, hV, rfl, hfz, hnd⟩ := hW
  have hA : DataW.TrodAll enc Yba.prog W 0 (fun _ => true) true Yba.f3.params.toList args.toList ds p := hA0
  rw [Yba.params3] at hA hval
  obtain ⟨v0, vs0, d0, ds0, p0, q0, hargs, rfl, rfl, h0, r0⟩ := trodAll_cons hA
  obtain ⟨v1, vs1, d1, ds1, p1, q1, rfl, rfl, rfl, h1, r1⟩ := trodAll_cons r0
  obtain ⟨v2, vs2, d2, ds2, p2, q2, rfl, rfl, rfl, h2, r2⟩ := trodAll_cons r1
  obtain ⟨rfl, rfl, rfl⟩ := trodAll_nil r2
  obtain rfl : args = #[v0, v1, v2] := by cases args; simp_all
  obtain ⟨rfl, rfl⟩ := trodVars_none hV
  obtain ⟨a0, len0, cap0, rfl⟩ := okWide_slice Yba.underlying22 (hval 0 22 v0 rfl rfl)
  obtain ⟨a1, len1, cap1, rfl⟩ := okWide_slice Yba.underlying23 (hval 1 23 v1 rfl rfl)
  have k0 := h0
  have k1 := h1
  have lt0 : ∀ x ∈ p0, x.block < W.heap.size := by obtain ⟨m, hm⟩ := k0; exact DataW.trod_lt m _ _ _ hm
  have lt1 : ∀ x ∈ p1, x.block < W.heap.size := by obtain ⟨m, hm⟩ := k1; exact DataW.trod_lt m _ _ _ hm
  obtain ⟨m0, hI⟩ : len0 ≤ 9223372036854775807 ∧ Items W a0 len0 := by
    obtain ⟨fuel, hf⟩ := h0
    rcases open_int_rows Yba.underlying22 Yba.underlying24 Yba.underlying5 (by kernel_rfl) (by kernel_rfl) hf with ⟨hcs, _⟩ | ⟨x, l, c, A, L, C, Z, hcs, _, hl, hm, _, hrow⟩
    · simp [Value.cells] at hcs
      obtain ⟨rfl, rfl, rfl⟩ := hcs
      exact ⟨by omega, fun i hi => by omega⟩
    · simp [Value.cells] at hcs
      obtain ⟨rfl, rfl, rfl⟩ := hcs
      unfold maxLen at hm
      refine ⟨by omega, fun i hi => ?_⟩
      obtain ⟨c1, c2, c3, c4, c5, c6, c7⟩ := hrow i (by omega)
      unfold maxLen at c3
      obtain ⟨b, off, rfl⟩ := spotless (by have h := (hrow 0 (by omega)).1; rw [Addr.add_zero'] at h; exact h)
      rw [add_none] at c1
      obtain ⟨bs, hsrc⟩ := src_of (w := W) (a := A i) (l := L i) (zs := Z i) (by omega) c5 (fun hpos => by
        cases hA : A i with
        | none => have := c6 hA; omega
        | some ad => exact ⟨ad, rfl, fun c hc => (c7 ad hA).2 c (by omega)⟩)
      exact ⟨b, off, A i, L i, C i, bs, rfl, c1, by omega, hsrc⟩
  obtain ⟨m1, hR⟩ : len1 ≤ 9223372036854775807 ∧ Reps W a1 len1 := by
    obtain ⟨fuel, hf⟩ := h1
    rcases open_ints Yba.underlying23 Yba.underlying25 (by kernel_rfl) hf with ⟨hcs, _⟩ | ⟨x, l, c, zs, hcs, _, hl, hm, hz, _, hcell, hwz⟩
    · simp [Value.cells] at hcs
      obtain ⟨rfl, rfl, rfl⟩ := hcs
      exact ⟨by omega, fun i hi => by omega⟩
    · simp [Value.cells] at hcs
      obtain ⟨rfl, rfl, rfl⟩ := hcs
      unfold maxLen at hm
      refine ⟨by omega, fun i hi => ?_⟩
      have hz' : zs.length = cap1 := by simpa using hz
      have h3 := hcell i (by omega)
      obtain ⟨b, off, rfl⟩ := spotless (by have h := hcell 0 (by omega); rw [Addr.add_zero'] at h; exact h)
      rw [add_none] at h3
      have hz2 := hwz (zs.getD i 0) (by rw [List.getD_eq_getElem?_getD, List.getElem?_eq_getElem (show i < zs.length by omega)]; exact List.getElem_mem _)
      simp only [Lit.wf, Bool.and_eq_true, decide_eq_true_eq] at hz2
      have h4 : (0 : Int) ≤ zs.getD i 0 := hz2.1
      have h5 : zs.getD i 0 ≤ 65535 := hz2.2
      exact ⟨b, off, _, rfl, h3, h4, by omega⟩
  obtain ⟨a2, rfl, rfl, rfl⟩ := open_bool Yba.underlying4 (hval 2 4 v2 rfl rfl) h2
  clear hA0 hval0
  refine (walk a0 a1 len0 cap0 len1 cap1 a2 W hI hR m0 m1).mono fun e W' ⟨he, bel⟩ => ?_
  subst he
  exact ⟨_, rfl, _, _, _, [], _, [], hW', trodAll_mk1 (shut_bool Yba.underlying4 _), (trodAll_cons_mk (Below.trod laidOut (by kernel_rfl) (of_decide_eq_true (by kernel_rfl)) k0 bel lt0) (trodAll_cons_mk (Below.trod laidOut (by kernel_rfl) (of_decide_eq_true (by kernel_rfl)) k1 bel lt1) (trodAll_cons_mk (shut_bool Yba.underlying4 _) trodAll_mk0))), rfl, bel.frame _, fun h => by cases h⟩

theorem over : Rows.lawS2677CTextRow.holds Yba.pinned (OpenSpec.ofChange Rows.lawS2677CTextSpec) :=
  OpenClaim.holds_of_wide 3 Yba.f3 rfl rfl rfl rfl rfl rfl rfl ⟨rfl, rfl, rfl, rfl, rfl⟩ rfl rfl rfl rfl rfl (by kernel_rfl) Yba.func3 (by kernel_rfl)
    (of_decide_eq_true (by kernel_rfl)) (by unfold Func.isWrapper; first | (rw [if_pos (by decide +kernel)]; kernel_rfl) | (rw [if_neg (by decide +kernel)]; exact ⟨rfl, rfl⟩))
    (fun os started H enc _ => lifted os started H enc)

/-- ████ THE STATEMENT ████ -/
theorem proved : Rows.LawS2677CTextSaid := over
end Go.Proofs.Ybulkbckm.lawS2677CText
