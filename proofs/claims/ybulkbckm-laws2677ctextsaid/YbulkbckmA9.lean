import Derived.Test.YbulkbckmB1
namespace Go.Proofs.Ybulkbckm
open Go.RowKit
set_option linter.unusedSimpArgs false
set_option linter.unusedVariables false

/-- items: each cell a slice of bytes -/
def Items (w : World) (ai : Option Addr) (li : Nat) : Prop := ∀ i, i < li → ∃ b off a l c bs, ai = some ⟨b, off, none⟩ ∧ w.cell? ⟨b, off + i, none⟩ = some (.slice a l c) ∧ l ≤ 9223372036854775807 ∧ Src w a l bs
/-- reps: each cell a uint16 -/
def Reps (w : World) (ar : Option Addr) (lr : Nat) : Prop := ∀ i, i < lr → ∃ b off x, ar = some ⟨b, off, none⟩ ∧ w.cell? ⟨b, off + i, none⟩ = some (.int .u16 x) ∧ 0 ≤ x ∧ x < 65536
/-- .. none longer than 4096 among the first k -/
def Short (w : World) (ai : Option Addr) (k : Nat) : Prop := ∀ i, i < k → ∃ b off a l c, ai = some ⟨b, off, none⟩ ∧ w.cell? ⟨b, off + i, none⟩ = some (.slice a l c) ∧ l ≤ 4096

theorem Short.succ {w : World} {ai : Option Addr} {k : Nat} (h : Short w ai k) {b off l c : Nat} {a : Option Addr} (e : ai = some ⟨b, off, none⟩) (hc : w.cell? ⟨b, off + k, none⟩ = some (.slice a l c)) (hl : l ≤ 4096) : Short w ai (k + 1) := by
  intro i hi
  by_cases hik : i = k
  · subst hik; exact ⟨b, off, a, l, c, e, hc, hl⟩
  · exact h i (by omega)

theorem cell_lt {w : World} {a : Addr} {v : Value} (h : w.cell? a = some v) : a.block < w.heap.size := by
  rcases Nat.lt_or_ge a.block w.heap.size with h' | h'
  · exact h'
  · have : w.heap[a.block]? = none := by simp [Array.getElem?_eq_none_iff, h']
    simp [World.cell?, this] at h

theorem cell_below {w w' : World} (hb : Below w.heap.size w w') {a : Addr} {v : Value} (h : w.cell? a = some v) : w'.cell? a = some v := by
  have hlt := cell_lt h
  rw [World.cell?_of_block (w := w) (hb.block a.block hlt)]
  exact h

theorem Src.below {w w' : World} (hb : Below w.heap.size w w') {a : Option Addr} {l : Nat} {bs : List UInt8} (h : Src w a l bs) : Src w' a l bs := by
  obtain ⟨h1, h2⟩ := h
  refine ⟨h1, fun h0 => ?_⟩
  obtain ⟨ad, e, hc⟩ := h2 h0
  exact ⟨ad, e, fun j v hj => cell_below hb (hc j v hj)⟩

/-- what a round of the main loop reads of an item -/
theorem item_at {w w' : World} (hb : Below w.heap.size w w') {ai : Option Addr} {li k : Nat} (h : Items w ai li) (hs : Short w ai li) (hk : k < li) :
    ∃ b off a l c bs, ai = some ⟨b, off, none⟩ ∧ w'.cell? ⟨b, off + k, none⟩ = some (.slice a l c) ∧ l ≤ 4096 ∧ Src w' a l bs ∧ (0 < l → ∀ ad, a = some ad → ad.block < w.heap.size) := by
  obtain ⟨b, off, a, l, c, bs, rfl, hc, _, hsrc⟩ := h k hk
  obtain ⟨b', off', a', l', c', e, hc', hl⟩ := hs k hk
  cases e
  rw [hc] at hc'
  cases hc'
  refine ⟨b, off, a, l, c, bs, rfl, cell_below hb hc, hl, hsrc.below hb, ?_⟩
  rintro h0 ad rfl
  obtain ⟨ad', e, hcc⟩ := hsrc.2 h0
  cases e
  have hl0 : 0 < (Lib.byteCells bs).length := by rw [Lib.byteCells_length, hsrc.1]; exact h0
  have h3 := hcc 0 _ (List.getElem?_eq_getElem hl0)
  have hadd : ad.add 0 = ad := by unfold Addr.add; cases ad; split <;> simp_all
  rw [hadd] at h3
  exact cell_lt h3

theorem rep_at {w w' : World} (hb : Below w.heap.size w w') {ar : Option Addr} {lr k : Nat} (h : Reps w ar lr) (hk : k < lr) : ∃ b off x, ar = some ⟨b, off, none⟩ ∧ w'.cell? ⟨b, off + k, none⟩ = some (.int .u16 x) ∧ 0 ≤ x ∧ x < 65536 := by
  obtain ⟨b, off, x, rfl, hc, h0, h1⟩ := h k hk
  exact ⟨b, off, x, rfl, cell_below hb hc, h0, h1⟩

theorem make32 (li : Nat) (hl : li ≤ 256) (w : World) : (Instr.makeSlice 32 (.int .i64 0) (.int .i64 (li : Int))).run Yba.prog w = .ok (.slice (some ⟨w.heap.size, 0, none⟩) 0 li) (w.alloc (.cells (madeCells #[.string ⟨#[]⟩] li) 9)) := by
  obtain ⟨i, hi, hz⟩ := Option.map_eq_some_iff.1 (by kernel_rfl : (Yba.prog.info? 9).map (fun i => (i.zero, i.size, i.bytes)) = some (some (.string ⟨#[]⟩), 1, 16))
  simp only [Prod.mk.injEq] at hz
  have h := run_make (P := Yba.prog) w 32 9 i (.string ⟨#[]⟩) Yba.underlying32 hi hz.1 .i64 .i64 0 (li : Int) (by omega) (by omega) (by rw [hz.2.2]; omega) (by omega)
  simp only [hz.2.1, Nat.mul_one, Int.toNat_natCast, Value.cells] at h
  exact h

/-- a row just made -/
theorem StrRow.new (w : World) (li : Nat) : StrRow (w.alloc (.cells (madeCells #[.string ⟨#[]⟩] li) 9)) w.heap.size li [] := by
  refine ⟨(madeCells #[.string ⟨#[]⟩] li).toList, ?_, ?_, by simp, by simp⟩
  · rw [heap_alloc_new]
  · simp [madeCells]
theorem StrRow.alloc {w : World} {g n : Nat} {ss : List ByteArray} (h : StrRow w g n ss) (o : Obj) : StrRow (w.alloc o) g n ss :=
  h.fr ((Fr.refl (fun _ => False) w).alloc o) (fun e => e)
theorem Fr.below {B : Nat} {S : Nat → Prop} {w0 w w' : World} (hb : Below B w0 w) (h : Fr S w w') (hB : B ≤ w.heap.size) (hS : ∀ k, k < B → ¬ S k) : Below B w0 w' := hb.trans (h.toBelow hB hS)
theorem StrRow.below {w w' : World} {g n : Nat} {ss : List ByteArray} (h : StrRow w g n ss) (hb : Below w.heap.size w w') : StrRow w' g n ss := by
  obtain ⟨cb, h1, h2⟩ := h
  exact ⟨cb, by rw [hb.block g (lt_of_block h1)]; exact h1, h2⟩
theorem StrRow.get {w : World} {g n : Nat} {ss : List ByteArray} (h : StrRow w g n ss) (m : Nat) (hm : m < ss.length) : w.cell? ⟨g, m, none⟩ = some (.string (ss[m]'hm)) := by
  obtain ⟨cb, h1, h2, h3, h4⟩ := h
  have h5 : (cb.take ss.length)[m]? = (ss.map Value.string)[m]? := by rw [h4]
  rw [List.getElem?_take_of_lt hm] at h5
  simp [World.cell?, h1, h5, hm]
theorem app32j {w : World} {g n j : Nat} {ss : List ByteArray} (h : StrRow w g n ss) (ej : ss.length = j) (hr : j < n) (s : ByteArray) :
    ∃ w', (Builtin.append_ #[32, 32] 32 #[.slice (some ⟨g, 0, none⟩) j n, .slice (some ⟨w.heap.size, 0, none⟩) 1 1]).run Yba.prog (w.alloc (.cells #[.string s] 9)) = .ok (.slice (some ⟨g, 0, none⟩) (j + 1) n) w' ∧ StrRow w' g n (ss ++ [s]) ∧ Fr (fun k => k = g) w w' := by
  subst ej
  exact app32 h hr s
/-- both appends of a round -/
theorem app2 {w : World} {g g2 n j : Nat} {ss : List ByteArray} (h : StrRow w g n ss) (h2 : StrRow w g2 n ss) (hg : g ≠ g2) (ej : ss.length = j) (hr : j < n) (s : ByteArray) :
    ∃ w1 w2, (Builtin.append_ #[32, 32] 32 #[.slice (some ⟨g, 0, none⟩) j n, .slice (some ⟨w.heap.size, 0, none⟩) 1 1]).run Yba.prog (w.alloc (.cells #[.string s] 9)) = .ok (.slice (some ⟨g, 0, none⟩) (j + 1) n) w1 ∧
      (Builtin.append_ #[32, 32] 32 #[.slice (some ⟨g2, 0, none⟩) j n, .slice (some ⟨w1.heap.size, 0, none⟩) 1 1]).run Yba.prog (w1.alloc (.cells #[.string s] 9)) = .ok (.slice (some ⟨g2, 0, none⟩) (j + 1) n) w2 ∧
      StrRow w2 g n (ss ++ [s]) ∧ StrRow w2 g2 n (ss ++ [s]) ∧ Fr (fun k => k = g ∨ k = g2) w w2 := by
  obtain ⟨w1, r1, s1, f1⟩ := app32j h ej hr s
  obtain ⟨w2, r2, s2, f2⟩ := app32j (h2.fr f1 (fun e => hg e.symm)) ej hr s
  exact ⟨w1, w2, r1, r2, s1.fr f2 hg, s2, (f1.mono (T := fun k => k = g ∨ k = g2) (fun k _ e => .inl e)).trans f2 (fun k _ e => .inr e)⟩
theorem BSt.fr {w w' : World} {S : Nat → Prop} {B : Nat} {g : Option Nat} {l cap : Nat} (h : BSt w B g l cap) (f : Fr S w w') (hB : ¬ S B) (hg : ∀ x, g = some x → ¬ S x) : BSt w' B g l cap := by
  cases g with
  | none =>
    obtain ⟨h, r⟩ := h
    exact ⟨by unfold BldAt at h ⊢; rw [f.block B (lt_of_block h) hB]; exact h, r⟩
  | some g =>
    obtain ⟨bs, h, ⟨cur, fz, hr, r⟩, r2⟩ := h
    exact ⟨bs, by unfold BldAt at h ⊢; rw [f.block B (lt_of_block h) hB]; exact h, ⟨cur, fz, by rw [f.block g (lt_of_block hr) (hg g rfl)]; exact hr, r⟩, r2⟩
theorem BSt.lt {w : World} {B : Nat} {g : Option Nat} {l cap : Nat} (h : BSt w B g l cap) : B < w.heap.size := by
  obtain ⟨q, p, h⟩ := h.at
  exact h.lt
theorem below_fr {w w' : World} (h : Below w.heap.size w w') : Fr (fun _ => False) w w' := ⟨h.os, h.tape, h.output, h.size, fun k hk _ => h.block k hk⟩

/-- what a round of the main loop keeps, the builder at block w.heap.size, the two rows behind it -/
def Inv (w wr : World) (k : Nat) (ss : List ByteArray) (g : Option Nat) (l cap : Nat) : Prop := BSt wr w.heap.size g l cap ∧ (∀ x, g = some x → w.heap.size + 2 < x) ∧ StrRow wr (w.heap.size + 1) k ss ∧ StrRow wr (w.heap.size + 2) k ss ∧ Below w.heap.size w wr

section
variable {w wr w1 w2 : World} {k : Nat} {ss : List ByteArray} {g g' : Option Nat} {l cap l' cap' : Nat}
theorem Inv.fr {S : Nat → Prop} (h : Inv w wr k ss g l cap) (f : Fr S wr w1) (hS : ∀ k, S k → wr.heap.size ≤ k) : Inv w w1 k ss g l cap := by
  obtain ⟨h1, h2, h3, h4, h5⟩ := h
  have hlt := h4.lt
  refine ⟨h1.fr f (fun e => by have := hS _ e; omega) ?_, h2, h3.fr f (fun e => by have := hS _ e; omega), h4.fr f (fun e => by have := hS _ e; omega), f.below h5 (by omega) (fun k hk e => by have := hS _ e; omega)⟩
  rintro x rfl e
  have h6 := hS _ e
  obtain ⟨bs, _, ⟨cur, fz, hr, _⟩, _⟩ := h1
  have := lt_of_block hr
  omega
theorem Inv.rep (h : Inv w wr k ss g l cap) (hb : Below wr.heap.size wr w1) : Inv w w1 k ss g l cap := h.fr (below_fr hb) (fun _ e => False.elim e)
theorem Inv.text (h : Inv w w1 k ss g l cap) (hst : BSt w2 w.heap.size g' l' cap') (hg : g' = g ∨ ∃ x, g' = some x ∧ w1.heap.size ≤ x) (f : Fr (fun k => k = w.heap.size ∨ some k = g) w1 w2) : Inv w w2 k ss g' l' cap' := by
  obtain ⟨h1, h2, h3, h4, h5⟩ := h
  have hlt := h4.lt
  refine ⟨hst, ?_, h3.fr f ?_, h4.fr f ?_, f.below h5 (by omega) ?_⟩
  · rintro x e
    rcases hg with rfl | ⟨y, rfl, hy⟩
    · exact h2 x e
    · cases e; omega
  · rintro (e | e)
    · omega
    · have := h2 _ e.symm; omega
  · rintro (e | e)
    · omega
    · have := h2 _ e.symm; omega
  · rintro k hk (e | e)
    · omega
    · have := h2 _ e.symm; omega
theorem Inv.app {j : Nat} (h : Inv w wr k ss g l cap) (ej : ss.length = j) (hr : j < k) (s : ByteArray) :
    ∃ w1 w2, (Builtin.append_ #[32, 32] 32 #[.slice (some ⟨w.heap.size + 1, 0, none⟩) j k, .slice (some ⟨wr.heap.size, 0, none⟩) 1 1]).run Yba.prog (wr.alloc (.cells #[.string s] 9)) = .ok (.slice (some ⟨w.heap.size + 1, 0, none⟩) (j + 1) k) w1 ∧
      (Builtin.append_ #[32, 32] 32 #[.slice (some ⟨w.heap.size + 2, 0, none⟩) j k, .slice (some ⟨w1.heap.size, 0, none⟩) 1 1]).run Yba.prog (w1.alloc (.cells #[.string s] 9)) = .ok (.slice (some ⟨w.heap.size + 2, 0, none⟩) (j + 1) k) w2 ∧
      Inv w w2 k (ss ++ [s]) g l cap := by
  obtain ⟨h1, h2, h3, h4, h5⟩ := h
  have hlt := h4.lt
  obtain ⟨w1, w2, r1, r2, s1, s2, f⟩ := app2 h3 h4 (by omega) ej hr s
  refine ⟨w1, w2, r1, r2, h1.fr f (by omega) (fun x e => by have := h2 x e; omega), h2, s1, s2, f.below h5 (by omega) (by omega)⟩
theorem Inv.start (w : World) (k : Nat) : Inv w (((w.alloc (.cells #[.pointer none, .slice none 0 0] 31)).alloc (.cells (madeCells #[.string ⟨#[]⟩] k) 9)).alloc (.cells (madeCells #[.string ⟨#[]⟩] k) 9)) k [] none 0 0 := by
  refine ⟨⟨?_, rfl, rfl⟩, (fun x e => by cases e), ?_, ?_, ?_⟩
  · refine BldAt.alloc (BldAt.alloc ?_ _) _
    unfold BldAt
    rw [heap_alloc_new]
  · have := (StrRow.new (w.alloc (.cells #[.pointer none, .slice none 0 0] 31)) k).alloc (.cells (madeCells #[.string ⟨#[]⟩] k) 9)
    simpa using this
  · have := StrRow.new ((w.alloc (.cells #[.pointer none, .slice none 0 0] 31)).alloc (.cells (madeCells #[.string ⟨#[]⟩] k) 9)) k
    simpa using this
  · exact (((Below.refl w.heap.size w).alloc (Nat.le_refl _) _).alloc (by simp) _).alloc (by simp; omega) _
end

theorem wrap_nat (a b c : Nat) (e : c = a + b) (h : a + b ≤ 9223372036854775807) : wrap64 ((a : Int) + (b : Int)) = (c : Int) := by
  subst e
  unfold wrap64
  omega
theorem wrap_sub (a b : Nat) (h : a ≤ 9223372036854775807) (h2 : b ≤ a) : wrap64 ((a : Int) - (b : Int)) = (a : Int) - b := by
  unfold wrap64
  omega

theorem case3 (lo n co l' : Nat) (el : l' = lo + n) (hfit : lo + n ≤ co) (h : co ≤ 9223372036854775807) (hn0 : 0 < n) (hn1 : n ≤ 16384) :
    (((n : Int) == 0) = false) ∧ ¬ (16384 < (n : Int)) ∧ wrap64 ((co : Int) - (lo : Int)) = (co : Int) - lo ∧ wrap64 ((lo : Int) + (n : Int)) = (l' : Int) ∧ (n : Int) ≤ (co : Int) - lo := by
  refine ⟨by rw [beq_eq_false_iff_ne]; omega, by omega, wrap_sub co lo h (by omega), wrap_nat lo n l' el (by omega), by omega⟩
theorem keep3 {w wr w1 wB : World} {S : Nat → Prop} (hb : Below w.heap.size w wr) (h1 : Below wr.heap.size wr w1) (f : Fr S w1 wB) (hS : ∀ k, k < w.heap.size → ¬ S k) : Below w.heap.size w wB :=
  f.below (hb.trans (h1.mono hb.size)) (Nat.le_trans hb.size h1.size) hS
end Go.Proofs.Ybulkbckm
