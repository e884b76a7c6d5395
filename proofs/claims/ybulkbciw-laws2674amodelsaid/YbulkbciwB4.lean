import Derived.Test.YbulkbciwA9
import Derived.Test.YbulkbciwK7
import Derived.Laws.ResultCell
namespace Go.Proofs.Ybulkbciw
open Go.RowKit
set_option linter.unusedSimpArgs false
set_option linter.unusedVariables false

/-- an append, its run known, at a step of a region that draws its order -/
theorem step_app {P : Program} {ops : Array Oper} {o : Oper} {a : Act} {w : World} {K : Act → World → Prop} {Q : Exit → Act → World → Prop} {E : Prop} (hgd : o.guard = none) (dst : Option Tmp) (hdst : o.dst = dst) (s x : Operand) (t tn : TypeId)
    (ho : o.op = .call { callee := .builtin .append, args := #[s, x], argTypes := #[t, tn] }) (b : Option Addr) (l c : Nat) (vx : Value) (hs : a.eval s = .slice b l c) (hx : a.eval x = vx) (v' : Value) (w' : World)
    (hr : (Builtin.append_ #[t, tn] o.type #[.slice b l c, vx]).run P w = .ok v' w') (h : K (a.put dst v') w') :
    if Region.wanted o (yielded ops a.tmps) = true then Oper.wp P o a w K Q else E := by
  have hw : Region.wanted o (yielded ops a.tmps) = true := by simp [Region.wanted, hgd]
  rw [if_pos hw]
  subst hdst
  unfold Oper.wp
  simp [execOp, ho, resolve, invoke, builtin, hs, hx, hr, Result.andThen]
  exact h

/-- two results, the first a boxed struct -/
theorem results_two {P : Program} {fn : Func} {p u : Tmp} {ty : TypeId} (h : fn.results = #[.cell p ty, .tmp u]) (tmps : Array Value) (w : World) (g : Nat) (t : TypeId) (cs : Array Value) (fr : Nat × Nat) (d : TypeDesc)
    (hp : tmps.getD p undef = .pointer (some ⟨g, 0, none⟩)) (hg : w.heap[g]? = some (.cells cs t fr))
    (hu : P.underlying ty = some d) (hd : (match d with | .struct _ | .array _ _ => true | _ => false) = true) (hi : (P.info? ty).map (·.size) = some cs.size) :
    (results fn tmps).run P w = .ok (.tuple #[.agg cs, tmps.getD u undef]) w := by
  have hp' : tmps[p]?.getD undef = .pointer (some ⟨g, 0, none⟩) := by simpa using hp
  rw [results_cell_tmp h]
  simp [hp', asAddr, run_loadVar_row w g t ty cs fr d hg hu hd hi, Result.andThen]

/-- a row of bytes that came in -/
def UB (w : World) (p : Option Addr) (n : Nat) : Prop := ∀ i, i < n → ∃ b off x, p = some ⟨b, off, none⟩ ∧ w.cell? ⟨b, off + i, none⟩ = some (.int .u8 x) ∧ 0 ≤ x ∧ x ≤ 255
theorem UB.u8 {w : World} {p : Option Addr} {n : Nat} (h : UB w p n) : U8 w p n := fun i hi => by
  obtain ⟨b, off, x, e, hc, h0, _⟩ := h i hi
  exact ⟨b, off, x, e, hc, h0⟩
theorem UB.below {w w' : World} {p : Option Addr} {n : Nat} (h : UB w p n) (hb : Below w.heap.size w w') : UB w' p n := fun i hi => by
  obtain ⟨b, off, x, e, hc, h0⟩ := h i hi
  refine ⟨b, off, x, e, ?_, h0⟩
  rw [World.cell?_of_block (w := w) (hb.block _ (cell_lt hc))]
  exact hc
/-- a row of sets that came in, to be read d deep -/
def Ins : Nat → World → Option Addr → Nat → Prop
  | 0 => fun _ _ _ => True
  | d + 1 => fun w p l => ∀ i, i < l → ∃ b off x q n c q2 n2 c2, p = some ⟨b, off, none⟩ ∧ w.cell? ⟨b, off + i * 3, none⟩ = some (.int .u8 x) ∧ w.cell? ⟨b, off + i * 3 + 1, none⟩ = some (.slice q n c) ∧ w.cell? ⟨b, off + i * 3 + 2, none⟩ = some (.slice q2 n2 c2) ∧
      n ≤ 9223372036854775807 ∧ n2 ≤ 9223372036854775807 ∧ UB w q n ∧ Ins d w q2 n2 ∧ 0 ≤ x ∧ x ≤ 255

/-- the budget -/
def Bud (w : World) (B : Nat) (b : Nat) : Prop := w.heap[B]? = some (.cells #[.int .i64 (b : Int)] 3 (0, 0))
theorem Bud.c {w : World} {B b : Nat} (h : Bud w B b) : w.cell? ⟨B, 0, none⟩ = some (.int .i64 (b : Int)) := by unfold Bud at h; simp [World.cell?, h]
theorem Bud.f {w : World} {B b : Nat} (h : Bud w B b) : w.frozen? ⟨B, 0, none⟩ = false := by unfold Bud at h; simp [World.frozen?, h]
theorem Bud.fr {w w' : World} {B b : Nat} {S : Nat → Prop} (h : Bud w B b) (f : Fr S w w') (hS : ¬ S B) : Bud w' B b := by
  unfold Bud at h ⊢
  rw [f.block B (lt_of_block h) hS]; exact h
theorem Bud.set {w : World} {B b : Nat} (h : Bud w B b) (b' : Nat) (x : Int) (hx : x = b') : Bud (w.setCell ⟨B, 0, none⟩ (.int .i64 x)) B b' := by
  subst hx
  unfold Bud at h ⊢
  rw [setCell_eq_setRow w B 0 _ 3 (0, 0) _ h, setRow_heap w B _ _ 3 _ h]
  rfl

/-- a boxed set of the law's -/
def SBox (w : World) (B : Nat) (a vs is : Value) : Prop := w.heap[B]? = some (.cells #[a, vs, is] 25 (0, 0))
section
variable {w : World} {B : Nat} {a vs is : Value}
theorem SBox.c0 (h : SBox w B a vs is) : w.cell? ⟨B, 0, none⟩ = some a := by unfold SBox at h; simp [World.cell?, h]
theorem SBox.c1 (h : SBox w B a vs is) : w.cell? ⟨B, 1, none⟩ = some vs := by unfold SBox at h; simp [World.cell?, h]
theorem SBox.c2 (h : SBox w B a vs is) : w.cell? ⟨B, 2, none⟩ = some is := by unfold SBox at h; simp [World.cell?, h]
theorem SBox.fr {S : Nat → Prop} {w' : World} (h : SBox w B a vs is) (f : Fr S w w') (hS : ¬ S B) : SBox w' B a vs is := by
  unfold SBox at h ⊢
  rw [f.block B (lt_of_block h) hS]; exact h
theorem SBox.new (w : World) (a vs is : Value) : SBox (w.alloc (.cells #[a, vs, is] 25)) w.heap.size a vs is := by unfold SBox; rw [heap_alloc_new]
end

/-- one value more in the box's first row -/
theorem val_app {N C k c : Nat} {w : World} {a is : Value} {p : Option Addr} {u : List Int} (hb : BoxAt w C a (.slice p k c) is) (ho : Own w N 3 1 p k c (u.map (Value.int .i64))) (hC : C < N) (hN : N ≤ w.heap.size) (hk : k ≤ 1000) (v : Int) :
    ∃ g' c' w2, (Builtin.append_ #[27, 27] 27 #[.slice p k c, .slice (some ⟨w.heap.size, 0, none⟩) 1 1]).run Yba.prog (w.alloc (.cells #[.int .i64 v] 3)) = .ok (.slice (some ⟨g', 0, none⟩) (k + 1) c') w2 ∧
      BoxAt w2 C a (.slice p k c) is ∧ BoxAt (w2.setCell ⟨C, 1, none⟩ (.slice (some ⟨g', 0, none⟩) (k + 1) c')) C a (.slice (some ⟨g', 0, none⟩) (k + 1) c') is ∧
      Own (w2.setCell ⟨C, 1, none⟩ (.slice (some ⟨g', 0, none⟩) (k + 1) c')) N 3 1 (some ⟨g', 0, none⟩) (k + 1) c' ((u ++ [v]).map (Value.int .i64)) ∧
      Fr (fun j => j = C ∨ N ≤ j) w (w2.setCell ⟨C, 1, none⟩ (.slice (some ⟨g', 0, none⟩) (k + 1) c')) := by
  obtain ⟨g', c', w2, r, o2, f2, hg, hlt⟩ := app_int w N p k c u ho hN (by omega) v
  have hpx : ∀ j, p = some ⟨j, 0, none⟩ → N ≤ j := by
    intro j e
    rcases ho.at with ⟨e2, _⟩ | ⟨g, e2, hb, _⟩
    · rw [e2] at e; cases e
    · rw [e2] at e; cases e; exact hb
  have hCp : ¬ (p = some ⟨C, 0, none⟩) := fun e => by have := hpx C e; omega
  have b2 := hb.fr f2 hCp
  have hg'n : N ≤ g' := by
    rcases o2.at with ⟨e2, _⟩ | ⟨g, e2, hb, _⟩
    · cases e2
    · cases e2; exact hb
  have fs : Fr (fun j => j = C) w2 (w2.setCell ⟨C, 1, none⟩ (.slice (some ⟨g', 0, none⟩) (k + 1) c')) := (Fr.refl (fun j => j = C) w2).setCell rfl _
  refine ⟨g', c', w2, r, b2, b2.set1 _, ?_, (f2.mono (T := fun j => j = C ∨ N ≤ j) (fun j _ e => .inr (hpx j e))).trans fs (fun j _ e => .inl e)⟩
  have := o2.fr fs (fun j o s e => by cases e; omega)
  simpa using this

/-- what is copied out -/
theorem out_box {w : World} {B : Nat} {a vs is : Value} (h : BoxAt w B a vs is) (a' vs' is' : Value) (W : World) (hW : W = ((w.setCell ⟨B, 0, none⟩ a').setCell ⟨B, 1, none⟩ vs').setCell ⟨B, 2, none⟩ is') : BoxAt W B a' vs' is' ∧ Fr (fun j => j = B) w W := by
  subst hW
  exact ⟨((h.set0 _).set1 _).set2 _, (((Fr.refl (fun j => j = B) w).setCell (p := ⟨B, 0, none⟩) rfl _).setCell (p := ⟨B, 1, none⟩) rfl _).setCell (p := ⟨B, 2, none⟩) rfl _⟩

/-- what build leaves: where it says true, a tree of nodes in range -/
def Blt (B0 nn d : Nat) (w : World) (e : Ending) (w' : World) : Prop := ∃ (a : Nat) (p1 : Option Addr) (n1 c1 : Nat) (p2 : Option Addr) (n2 c2 : Nat) (ok : Bool), e = .returned (.tuple #[.agg #[.int .u64 (a : Nat), .slice p1 n1 c1, .slice p2 n2 c2], .bool ok]) ∧ Fr (fun k => k = B0) w w' ∧
  (ok = true → ∃ t : T (d + 1), thr (d + 1) t = a ∧ Rep (fun k => w.heap.size ≤ k) 64 (d + 1) w' (.slice p1 n1 c1) (.slice p2 n2 c2) t ∧ (∀ v ∈ flat (d + 1) t, 0 ≤ v ∧ v < nn) ∧ ∃ b, b ≤ 512 ∧ Bud w' B0 b)

def Bld8 (W0 : World) (B0 nn d : Nat) : Prop := ∀ (w : World) (x : Int) (q : Option Addr) (n c : Nat) (q2 : Option Addr) (n2 c2 bud : Nat), Below W0.heap.size W0 w → UB W0 q n → Ins d W0 q2 n2 → 0 ≤ x → x ≤ 255 → n ≤ 9223372036854775807 → n2 ≤ 9223372036854775807 → Bud w B0 bud → bud ≤ 512 →
  Calls Yba.prog 8 #[.agg #[.int .u8 x, .slice q n c, .slice q2 n2 c2], .int .i64 (nn : Int), .int .i64 ((3 - d : Nat) : Int), .pointer (some ⟨B0, 0, none⟩)] w fun e w' => Blt B0 nn d w e w'
end Go.Proofs.Ybulkbciw
