/- LAWS OF NO PROGRAM: a frame over a set of blocks. -/
import Derived.WalkKit
import Derived.WalkLawsBesides
import Derived.WalkSpells
import Derived.Laws.IdiomCopy
namespace Go.Proofs.Ybulkbciw
open Go.RowKit
set_option linter.unusedSimpArgs false
set_option linter.unusedVariables false

/-- w' is w with new blocks, and with writes to blocks in S alone. -/
structure Fr (S : Nat → Prop) (w w' : World) : Prop where
  os : w'.os = w.os
  tape : w'.tape = w.tape
  output : w'.output = w.output
  size : w.heap.size ≤ w'.heap.size
  block : ∀ k, k < w.heap.size → ¬ S k → w'.heap[k]? = w.heap[k]?

theorem Fr.refl (S : Nat → Prop) (w : World) : Fr S w w := ⟨rfl, rfl, rfl, Nat.le_refl _, fun _ _ _ => rfl⟩
theorem Fr.trans {S T : Nat → Prop} {a b c : World} (h : Fr S a b) (k : Fr T b c) (hT : ∀ i, i < a.heap.size → T i → S i) : Fr S a c :=
  ⟨k.os.trans h.os, k.tape.trans h.tape, k.output.trans h.output, Nat.le_trans h.size k.size,
    fun i hi hS => (k.block i (Nat.lt_of_lt_of_le hi h.size) (fun e => hS (hT i hi e))).trans (h.block i hi hS)⟩
theorem Fr.mono {S T : Nat → Prop} {a b : World} (h : Fr S a b) (hT : ∀ i, i < a.heap.size → S i → T i) : Fr T a b :=
  (Fr.refl T a).trans h hT
theorem Fr.drew {S : Nat → Prop} {a b : World} (h : Fr S a b) : Fr S a b.drew := ⟨h.os, h.tape, h.output, h.size, h.block⟩
theorem Fr.drewN {S : Nat → Prop} {a b : World} (h : Fr S a b) (n : Nat) : Fr S a (b.drewN n) := ⟨h.os, h.tape, h.output, h.size, h.block⟩
theorem Fr.ofDrew {S : Nat → Prop} {a b : World} (h : Fr S a.drew b) : Fr S a b := ⟨h.os, h.tape, h.output, h.size, h.block⟩
theorem Fr.alloc {S : Nat → Prop} {a b : World} (h : Fr S a b) (o : Obj) : Fr S a (b.alloc o) :=
  h.trans (T := fun _ => False) ⟨rfl, rfl, rfl, by simp, fun k hk _ => Below.heap_alloc b o k hk⟩ (fun _ _ e => e.elim)
theorem Fr.setCell {S : Nat → Prop} {a b : World} (h : Fr S a b) {p : Addr} (hp : S p.block) (u : Value) : Fr S a (b.setCell p u) :=
  h.trans (T := fun k => k = p.block) ⟨rfl, rfl, rfl, by simp [World.setCell], fun k _ hk => Below.heap_setCell _ _ _ _ hk⟩ (fun _ _ e => by rw [e]; exact hp)
theorem Fr.ofGrown {w w' : World} {row : Option Nat} (h : w.grownBy w' row) : Fr (fun k => some k = row) w w' := ⟨h.os, h.tape, h.output, h.size, h.block⟩
theorem Fr.toBelow {S : Nat → Prop} {B : Nat} {w w' : World} (h : Fr S w w') (hB : B ≤ w.heap.size) (hS : ∀ k, k < B → ¬ S k) : Below B w w' :=
  ⟨h.os, h.tape, h.output, h.size, fun k hk => h.block k (by omega) (hS k hk)⟩
theorem Fr.cell {S : Nat → Prop} {w w' : World} (h : Fr S w w') {p : Addr} (hp : p.block < w.heap.size) (hS : ¬ S p.block) : w'.cell? p = w.cell? p :=
  World.cell?_of_block (w := w) (h.block p.block hp hS)
theorem Fr.frozen {S : Nat → Prop} {w w' : World} (h : Fr S w w') {p : Addr} (hp : p.block < w.heap.size) (hS : ¬ S p.block) : w'.frozen? p = w.frozen? p :=
  World.frozen?_of_block (w := w) (h.block p.block hp hS)
theorem Fr.owns {S : Nat → Prop} {w w' : World} (h : Fr S w w') {base : Nat} {e : TypeId} {size : Nat} {v : Value} {n : Nat} {xs : List Value}
    (ho : w.ownsRow base e size v n xs) (hS : ∀ k, v.ownBlock = some k → ¬ S k) : w'.ownsRow base e size v n xs := by
  refine ⟨ho.1, ?_⟩
  rcases ho.2 with hn | ⟨g, cap, cur, rfl, hb, hgg, rest⟩
  · exact .inl hn
  · refine .inr ⟨g, cap, cur, rfl, hb, ?_, rest⟩
    rw [h.block g (Array.getElem?_eq_some_iff.1 hgg).1 (hS g rfl)]
    exact hgg

theorem grownBy_setRow (w : World) (g : Nat) (cs : Array Value) : w.grownBy (w.setRow g cs) (some g) :=
  ⟨rfl, rfl, rfl, by simp [World.setRow], fun k _ hk => setRow_other w g k cs (fun e => hk (by rw [e]))⟩

end Go.Proofs.Ybulkbciw
