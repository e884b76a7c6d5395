/- 'Rows.LawS2670CAgreesToldSaid' -/
import Derived.Test.YbulkbcgsFmtX4
import Derived.Lib.SmallJoins
import Derived.Laws.Cover2
import Derived.ProofKit
import Derived.ChangeSlices
import Derived.ChangeSame
import Derived.ChangeMaps5
import Derived.JoinedOf
import Derived.Carry
import Derived.OpenShut
import Derived.Below
import Derived.Stop.JoinedAt
import Derived.Stop.Texts
import Derived.Stop.JoinedTold
import Derived.SizedLaws
import Derived.SevenToldRow
namespace Go.Proofs.YbulkbcgsFmt.lawS2670CAgrees
open Go.ChangeShapes Go.WideShapes Go.ChangeAt Go.RowKit Go.Kit Go.Deep Go.Joins
open Go.Extern.Stop Go.Stop Go.Extern
set_option linter.unusedVariables false

theorem own : ownKnob Ybaf.prog.godebug = none := by kernel_rfl
theorem laidOut : laidOutB Ybaf.pinned.checked.prog = true := by kernel_rfl

theorem wf8 {n : Int} (h : (Lit.int .u8 n).wf = true) : 0 ≤ n ∧ n < 256 := by
  simp only [Lit.wf, Bool.and_eq_true, decide_eq_true_eq] at h
  have e1 : IntKind.min .u8 = 0 := by decide
  have e2 : IntKind.max .u8 = 255 := by decide
  omega
theorem wf64 {n : Int} (h : (Lit.int .i64 n).wf = true) : n ≤ 9223372036854775807 := by
  simp only [Lit.wf, Bool.and_eq_true, decide_eq_true_eq] at h
  have e2 : IntKind.max .i64 = 9223372036854775807 := by decide
  omega

section
variable {H : Type} {enc : TypeId × Value → H} {P : Program} {w : World} {base : Nat} {spare : Nat → Bool} {held : Bool}
theorem trod_flt {t : TypeId} {fuel : Nat} {v : Value} {x : DataW H × List MemPlace} (ht : P.underlying t = some (.float .f64)) (h : DataW.trod enc P w base spare held fuel t [v] = some x) : ∃ b, v = .float .f64 b := by
  cases fuel with
  | zero => simp [DataW.trod] at h
  | succ n =>
    simp only [DataW.trod, ht] at h
    cases v with
    | float k b => cases k with
      | f64 => exact ⟨b, rfl⟩
      | f32 => simp at h
    | _ => simp at h

theorem array6 {α : Type} {cs : Array α} (h : cs.size = 6) : ∃ c0 c1 c2 c3 c4 c5, cs = #[c0, c1, c2, c3, c4, c5] := by
  obtain ⟨l⟩ := cs
  match l, h with
  | [c0, c1, c2, c3, c4, c5], _ => exact ⟨c0, c1, c2, c3, c4, c5, rfl⟩

theorem open_agg6 {r : Reach} {b0 : Nat} {t : TypeId} {f0 f1 f2 f3 f4 f5 : Field} {v : Value} {d : DataW H} {p : List MemPlace} (hs : P.underlying t = some (.struct #[f0, f1, f2, f3, f4, f5])) (hone : oneCellFields P #[f0, f1, f2, f3, f4, f5] = true) (hC : P.cellsOf t = 6)
    (hv : Value.okWide P w r b0 t v) (h : DataW.Trod enc P w base spare held t v d p) :
    ∃ (v0 v1 v2 v3 v4 v5 : Value) (y0 y1 y2 y3 y4 y5 : DataW H × List MemPlace) (n : Nat), v = .agg #[v0, v1, v2, v3, v4, v5] ∧
      DataW.trod enc P w base spare held n f0.type [v0] = some y0 ∧ DataW.trod enc P w base spare held n f1.type [v1] = some y1 ∧ DataW.trod enc P w base spare held n f2.type [v2] = some y2 ∧ DataW.trod enc P w base spare held n f3.type [v3] = some y3 ∧ DataW.trod enc P w base spare held n f4.type [v4] = some y4 ∧ DataW.trod enc P w base spare held n f5.type [v5] = some y5 := by
  obtain ⟨cs, rfl, hsz⟩ := okWide_struct hs hv
  obtain ⟨c0, c1, c2, c3, c4, c5, rfl⟩ := array6 (hsz.trans hC)
  obtain ⟨fuel, hf⟩ := h
  obtain ⟨xs, n, _, _, _, hlen, hg⟩ := DataW.trod_struct hs hf
  have g : ∀ (i : Nat) (f : Field), #[f0, f1, f2, f3, f4, f5][i]? = some f → ∃ y, DataW.trod enc P w base spare held n f.type ([c0, c1, c2, c3, c4, c5].drop i |>.take 1) = some y := by
    intro i f hi
    obtain ⟨o, k⟩ := hone_of hone i f hi
    have h1 := hg i f hi
    have hlt : i < 6 := (Array.getElem?_eq_some_iff.1 hi).1
    have hx : ∃ y, xs[i]? = some y := ⟨xs[i]'(by rw [hlen]; exact hlt), List.getElem?_eq_getElem _⟩
    obtain ⟨y, hy⟩ := hx
    rw [hy, o, k] at h1
    exact ⟨y, h1⟩
  obtain ⟨y0, g0⟩ := g 0 f0 rfl
  obtain ⟨y1, g1⟩ := g 1 f1 rfl
  obtain ⟨y2, g2⟩ := g 2 f2 rfl
  obtain ⟨y3, g3⟩ := g 3 f3 rfl
  obtain ⟨y4, g4⟩ := g 4 f4 rfl
  obtain ⟨y5, g5⟩ := g 5 f5 rfl
  exact ⟨c0, c1, c2, c3, c4, c5, y0, y1, y2, y3, y4, y5, n, rfl, g0, g1, g2, g3, g4, g5⟩
end

theorem open24 {H : Type} {enc : TypeId × Value → H} {w : World} {base : Nat} {spare : Nat → Bool} {held : Bool} {r : Reach} {b0 : Nat} {v : Value} {d : DataW H} {p : List MemPlace}
    (hv : Value.okWide Ybaf.prog w r b0 24 v) (h : DataW.Trod enc Ybaf.prog w base spare held 24 v d p) :
    ∃ nm n b mx ini price, v = .agg #[.string nm, .int .i64 n, .float .f64 b, .float .f64 mx, .float .f64 ini, .float .f64 price] ∧ (Lit.int .i64 n).wf = true := by
  obtain ⟨v0, v1, v2, v3, v4, v5, y0, y1, y2, y3, y4, y5, n, rfl, h0, h1, h2, h3, h4, h5⟩ := open_agg6 Ybaf.underlying24 (by kernel_rfl) (by kernel_rfl) hv h
  obtain ⟨nm, e0, _⟩ := DataW.trod_string Ybaf.underlying9 h0
  obtain ⟨k, e1, _, hk⟩ := DataW.trod_int Ybaf.underlying3 h1
  obtain ⟨b, rfl⟩ := trod_flt Ybaf.underlying22 h2
  obtain ⟨mx, rfl⟩ := trod_flt Ybaf.underlying22 h3
  obtain ⟨ini, rfl⟩ := trod_flt Ybaf.underlying22 h4
  obtain ⟨price, rfl⟩ := trod_flt Ybaf.underlying22 h5
  cases e0
  cases e1
  exact ⟨_, _, _, _, _, _, rfl, hk⟩

theorem open28 {H : Type} {enc : TypeId × Value → H} {w : World} {base : Nat} {spare : Nat → Bool} {held : Bool} {r : Reach} {b0 : Nat} {v : Value} {d : DataW H} {p : List MemPlace}
    (hv : Value.okWide Ybaf.prog w r b0 28 v) (h : DataW.Trod enc Ybaf.prog w base spare held 28 v d p) :
    ∃ tv dd pr pa pl pc, v = .agg #[.int .i64 tv, .int .i64 dd, .float .f64 pr, .slice pa pl pc] ∧ (Lit.int .i64 dd).wf = true := by
  obtain ⟨v0, v1, v2, v3, y0, y1, y2, y3, n, rfl, _, _, h0, h1, h2, h3⟩ := open_agg4 Ybaf.underlying28 (by kernel_rfl) (by kernel_rfl) hv h
  obtain ⟨tv, e0, _, _⟩ := DataW.trod_int Ybaf.underlying3 h0
  obtain ⟨dd, e1, _, hk⟩ := DataW.trod_int Ybaf.underlying25 h1
  obtain ⟨pr, rfl⟩ := trod_flt Ybaf.underlying22 h2
  obtain ⟨pa, pl, pc, e3⟩ := slice_form Ybaf.underlying26 h3
  cases e0
  cases e1
  cases e3
  exact ⟨_, _, _, _, _, _, rfl, hk⟩

set_option maxRecDepth 100000 in
theorem lifted (os : Os) (started : os.Started) (H : Type) (enc : TypeId × Value → H) :
    ReturnsInTold none {} Ybaf.checked os 3 .any Input.okWide ((OpenSpec.ofChange Rows.lawS2670CAgreesSpec).preRow enc Ybaf.prog Ybaf.f3 [] false []) (fun F => ((OpenSpec.ofChange Rows.lawS2670CAgreesSpec).at F).post enc Ybaf.prog Ybaf.f3 false true false false) (aloneAtReturn Ybaf.prog) nothingAlways := by
  refine returnsInTold_of_row (C := Ybaf.checked) (s := OpenSpec.ofChange Rows.lawS2670CAgreesSpec) (by kernel_rfl) own started (by kernel_rfl) Ybaf.func3
    (OpenSpec.witness_stopped (enc := enc) (C := Ybaf.checked) false ⟨#[], #[.agg #[.string ⟨#[]⟩, .int .i64 0, .float .f64 0, .float .f64 0, .float .f64 0, .float .f64 0], .int .u8 0, .string ⟨#[]⟩, .agg #[.int .i64 0, .int .i64 0, .float .f64 0, .slice none 0 0]], []⟩ 8 (by kernel_rfl) (by kernel_rfl) (by kernel_rfl) (by kernel_rfl)) ?_
  intro F W base args ds gs before _ hF hval0 hW _ _ hsz _ _
  have hval : ∀ (j : Nat) t v, Ybaf.f3.params[j]? = some t → args[j]? = some v → Value.okWide Ybaf.prog W .any base t v := hval0
  have hW' := hW
  obtain ⟨p, q, hA0, hV, rfl, _, _⟩ := hW
  have hA : DataW.TrodAll enc Ybaf.prog W 0 (fun _ => true) true Ybaf.f3.params.toList args.toList ds p := hA0
  rw [Ybaf.params3] at hA hval
  obtain ⟨v0, vs0, d0, ds0, p0, q0, hargs, rfl, rfl, h0, r0⟩ := trodAll_cons hA
  obtain ⟨v1, vs1, d1, ds1, p1, q1, rfl, rfl, rfl, h1, r1⟩ := trodAll_cons r0
  obtain ⟨v2, vs2, d2, ds2, p2, q2, rfl, rfl, rfl, h2, r2⟩ := trodAll_cons r1
  obtain ⟨v3, vs3, d3, ds3, p3, q3, rfl, rfl, rfl, h3, r3⟩ := trodAll_cons r2
  obtain ⟨rfl, rfl, rfl⟩ := trodAll_nil r3
  obtain rfl : args = #[v0, v1, v2, v3] := by cases args; simp_all
  obtain ⟨rfl, rfl⟩ := trodVars_none hV
  have k0 := h0
  have k3 := h3
  have lt0 : ∀ x ∈ p0, x.block < W.heap.size := by obtain ⟨m, hm⟩ := k0; exact DataW.trod_lt m _ _ _ hm
  have lt3 : ∀ x ∈ p3, x.block < W.heap.size := by obtain ⟨m, hm⟩ := k3; exact DataW.trod_lt m _ _ _ hm
  obtain ⟨nm, n, b, mx, ini, price, rfl, kn⟩ := open24 (hval 0 24 v0 rfl rfl) h0
  obtain ⟨sel, rfl, rfl, rfl, ks⟩ := open_int Ybaf.underlying5 (hval 1 5 v1 rfl rfl) h1
  obtain ⟨raw, rfl⟩ := okWide_string Ybaf.underlying9 (hval 2 9 v2 rfl rfl)
  have k2 := h2
  have lt2 : ∀ x ∈ p2, x.block < W.heap.size := by obtain ⟨m, hm⟩ := k2; exact DataW.trod_lt m _ _ _ hm
  obtain ⟨tv, dd, pr, pa, pl, pc, rfl, kd⟩ := open28 (hval 3 28 v3 rfl rfl) h3
  clear hA0 hval0
  refine (agrees3 nm raw n dd tv sel b mx ini pr price pa pl pc W (wf8 ks).1 (wf8 ks).2 (wf64 kn) (wf64 kd)).mono fun e W' ⟨he, bel⟩ => ?_
  subst he
  exact ⟨_, rfl, _, _, _, [], _, [], hW', trodAll_mk1 (shut_bool Ybaf.underlying4 _), (trodAll_cons_mk (Below.trod laidOut (by kernel_rfl) (of_decide_eq_true (by kernel_rfl)) k0 bel lt0) (trodAll_cons_mk (shut_int Ybaf.underlying5 ks) (trodAll_cons_mk (Below.trod laidOut (by kernel_rfl) (of_decide_eq_true (by kernel_rfl)) k2 bel lt2) (trodAll_cons_mk (Below.trod laidOut (by kernel_rfl) (of_decide_eq_true (by kernel_rfl)) k3 bel lt3) trodAll_mk0)))), rfl, bel.frame _, fun h => by cases h⟩

theorem stops : Ybaf.pinned.checked.prog.stops = ["fmt.Sprintf"] := by kernel_rfl
theorem stopKnobs : Ybaf.pinned.checked.prog.stopKnobs = [] := by kernel_rfl
theorem quiet (os : Os) : Stop.quiet Ybaf.pinned.checked.prog os := by
  intro k hk
  rw [stopKnobs] at hk
  cases hk

/-- ████ THE STATEMENT ████ -/
theorem proved : Rows.LawS2670CAgreesToldSaid :=
  Claim7.holds_of_told_any 3 Ybaf.f3 "fmt.Sprintf" [] [] _ _ _ (by kernel_rfl) rfl rfl rfl laidOut (by kernel_rfl) rfl ⟨rfl, rfl, rfl, rfl, rfl, rfl, rfl⟩ rfl rfl (by kernel_rfl) (by kernel_rfl) Ybaf.func3 (by kernel_rfl)
    (of_decide_eq_true (by kernel_rfl)) (of_decide_eq_true (by kernel_rfl)) stops.symm rfl stopKnobs.symm (by kernel_rfl)
    (by kernel_rfl) (by kernel_rfl) (by kernel_rfl) (by kernel_rfl) (by kernel_rfl) (by kernel_rfl) (by kernel_rfl) (by kernel_rfl) (by kernel_rfl) rfl (by kernel_rfl) rfl rfl
    rfl rfl
    rfl (by kernel_rfl) (by kernel_rfl) (by kernel_rfl) (by decide) (by kernel_rfl)
    (OpenClaim.moreEntering_of (by kernel_rfl) (by kernel_rfl) (by kernel_rfl) (by kernel_rfl) (by kernel_rfl) (by kernel_rfl) (by kernel_rfl) (by kernel_rfl) (by kernel_rfl) (by kernel_rfl))
    ⟨_, WideRow.started_initial, quiet _⟩
    (fun os started _ H enc _ => lifted os started H enc)
end Go.Proofs.YbulkbcgsFmt.lawS2670CAgrees
