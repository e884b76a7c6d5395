/- LAWS OF NO PROGRAM: a frame over a set of blocks, and copy as a law that leaves a frame. -/
import Derived.WalkKit
import Derived.WalkLawsBesides
import Derived.WalkSpells
import Derived.Laws.CopyOwn
import Derived.Laws.IdiomCopy
import Derived.Lib.AppendZeros
import Derived.Lib.AppendZerosOnto
import Derived.Lib.Overlaps
namespace Go.Proofs.Ybulkbckm
open Go.RowKit
set_option linter.unusedSimpArgs false
set_option linter.unusedVariables false

/-- w' is w with new blocks, and with writes to blocks in S alone. -/
structure Fr (S : Nat → Prop) (w w' : World) : Prop where
  os : w'.os = w.os
  tape : w'.tape = w.tape
  output : w'.output = w.output
  size : w.heap.size ≤ w'.heap.size
  block : ∀ k, k < w.heap.size → ¬ S k → w'.heap[k]? = w.heap[k]?

theorem Fr.refl (S : Nat → Prop) (w : World) : Fr S w w := ⟨rfl, rfl, rfl, Nat.le_refl _, fun _ _ _ => rfl⟩
theorem Fr.trans {S T : Nat → Prop} {a b c : World} (h : Fr S a b) (k : Fr T b c) (hT : ∀ i, i < a.heap.size → T i → S i) : Fr S a c :=
  ⟨k.os.trans h.os, k.tape.trans h.tape, k.output.trans h.output, Nat.le_trans h.size k.size,
    fun i hi hS => (k.block i (Nat.lt_of_lt_of_le hi h.size) (fun e => hS (hT i hi e))).trans (h.block i hi hS)⟩
theorem Fr.mono {S T : Nat → Prop} {a b : World} (h : Fr S a b) (hT : ∀ i, i < a.heap.size → S i → T i) : Fr T a b :=
  (Fr.refl T a).trans h hT
theorem Fr.drew {S : Nat → Prop} {a b : World} (h : Fr S a b) : Fr S a b.drew := ⟨h.os, h.tape, h.output, h.size, h.block⟩
theorem Fr.drewN {S : Nat → Prop} {a b : World} (h : Fr S a b) (n : Nat) : Fr S a (b.drewN n) := ⟨h.os, h.tape, h.output, h.size, h.block⟩
theorem Fr.ofDrew {S : Nat → Prop} {a b : World} (h : Fr S a.drew b) : Fr S a b := ⟨h.os, h.tape, h.output, h.size, h.block⟩
theorem Fr.alloc {S : Nat → Prop} {a b : World} (h : Fr S a b) (o : Obj) : Fr S a (b.alloc o) :=
  h.trans (T := fun _ => False) ⟨rfl, rfl, rfl, by simp, fun k hk _ => Below.heap_alloc b o k hk⟩ (fun _ _ e => e.elim)
theorem Fr.setCell {S : Nat → Prop} {a b : World} (h : Fr S a b) {p : Addr} (hp : S p.block) (u : Value) : Fr S a (b.setCell p u) :=
  h.trans (T := fun k => k = p.block) ⟨rfl, rfl, rfl, by simp [World.setCell], fun k _ hk => Below.heap_setCell _ _ _ _ hk⟩ (fun _ _ e => by rw [e]; exact hp)
theorem Fr.ofGrown {w w' : World} {row : Option Nat} (h : w.grownBy w' row) : Fr (fun k => some k = row) w w' := ⟨h.os, h.tape, h.output, h.size, h.block⟩
theorem Fr.toBelow {S : Nat → Prop} {B : Nat} {w w' : World} (h : Fr S w w') (hB : B ≤ w.heap.size) (hS : ∀ k, k < B → ¬ S k) : Below B w w' :=
  ⟨h.os, h.tape, h.output, h.size, fun k hk => h.block k (by omega) (hS k hk)⟩
theorem Fr.cell {S : Nat → Prop} {w w' : World} (h : Fr S w w') {p : Addr} (hp : p.block < w.heap.size) (hS : ¬ S p.block) : w'.cell? p = w.cell? p :=
  World.cell?_of_block (w := w) (h.block p.block hp hS)
theorem Fr.frozen {S : Nat → Prop} {w w' : World} (h : Fr S w w') {p : Addr} (hp : p.block < w.heap.size) (hS : ¬ S p.block) : w'.frozen? p = w.frozen? p :=
  World.frozen?_of_block (w := w) (h.block p.block hp hS)
theorem Fr.owns {S : Nat → Prop} {w w' : World} (h : Fr S w w') {base : Nat} {e : TypeId} {size : Nat} {v : Value} {n : Nat} {xs : List Value}
    (ho : w.ownsRow base e size v n xs) (hS : ∀ k, v.ownBlock = some k → ¬ S k) : w'.ownsRow base e size v n xs := by
  refine ⟨ho.1, ?_⟩
  rcases ho.2 with hn | ⟨g, cap, cur, rfl, hb, hgg, rest⟩
  · exact .inl hn
  · refine .inr ⟨g, cap, cur, rfl, hb, ?_, rest⟩
    rw [h.block g (Array.getElem?_eq_some_iff.1 hgg).1 (hS g rfl)]
    exact hgg

theorem grownBy_setRow (w : World) (g : Nat) (cs : Array Value) : w.grownBy (w.setRow g cs) (some g) :=
  ⟨rfl, rfl, rfl, by simp [World.setRow], fun k _ hk => setRow_other w g k cs (fun e => hk (by rw [e]))⟩

theorem run_copy_g {P : Program} (w : World) (dT sT ty elem : TypeId) (g o dLen dCap : Nat) (a : Addr) (sLen sCap : Nat) (cur : List Value) (t : TypeId) (cs : List Value)
    (hu : P.underlying dT = some (.slice elem)) (hs : (P.info? elem).map (·.size) = some 1)
    (hg : w.heap[g]? = some (.cells cur.toArray t (0, 0))) (hn : cs.length = Nat.min sLen dLen)
    (hsrc : ∀ j v, cs[j]? = some v → w.cell? (a.add j) = some v) (hfit : o + cs.length ≤ cur.length) (h1 : ∀ v ∈ cs, v.oneCell' = true) :
    ∃ w', (Builtin.copy_ #[dT, sT] ty #[.slice (some ⟨g, o, none⟩) dLen dCap, .slice (some a) sLen sCap]).run P w = .ok (goInt cs.length) w' ∧
      w'.heap[g]? = some (.cells (splice cur o cs).toArray t (0, 0)) ∧ w.grownBy w' (some g) :=
  ⟨_, run_copy_row (P := P) w dT sT ty elem g o dLen dCap a sLen sCap cur.toArray t cs hu hs hg hn hsrc (by simpa using hfit) h1,
    by simpa [splice] using setRow_heap w g _ _ t _ hg, grownBy_setRow _ _ _⟩

theorem wpList_copy_g {P : Program} {w : World} {ops : Array Oper} {rest : List Oper} {o : Oper} {a : Act} {Q : Exit → Act → World → Prop} (hgd : o.guard = none) (d s : Operand) (dT sT : TypeId)
    (ho : o.op = .call { callee := .builtin .copy, args := #[d, s], argTypes := #[dT, sT] }) (elem : TypeId) (hu : P.underlying dT = some (.slice elem)) (hsz : (P.info? elem).map (·.size) = some 1)
    (g off dLen dCap : Nat) (ad : Addr) (sLen sCap : Nat) (hd : a.eval d = .slice (some ⟨g, off, none⟩) dLen dCap) (hs : a.eval s = .slice (some ad) sLen sCap)
    (cur : List Value) (t : TypeId) (hg : w.heap[g]? = some (.cells cur.toArray t (0, 0))) (cs : List Value) (hn : cs.length = Nat.min sLen dLen)
    (hsrc : ∀ j v, cs[j]? = some v → w.cell? (ad.add j) = some v) (hfit : off + cs.length ≤ cur.length) (h1 : ∀ v ∈ cs, v.oneCell' = true)
    (h : ∀ w', Hid (w'.heap[g]? = some (.cells (splice cur off cs).toArray t (0, 0))) → Hid (w.grownBy w' (some g)) → wpList P ops Q rest (a.put o.dst (goInt cs.length)) w') : wpList P ops Q (o :: rest) a w := by
  refine wpList_plain hgd fun K hK => ?_
  obtain ⟨w', hrun, h2, h3⟩ := run_copy_g (P := P) w dT sT o.type elem g off dLen dCap ad sLen sCap cur t cs hu hsz hg hn hsrc hfit h1
  unfold Oper.wp
  simp [execOp, ho, resolve, invoke, builtin, hd, hs, hrun, Result.andThen]
  exact hK _ _ (h w' h2 h3)

/-- the same, for 'with_reducible refine': what is read off the operation comes as one goal -/
theorem wpList_copy_r {P : Program} {w : World} {ops : Array Oper} {rest : List Oper} {o : Oper} {a : Act} {Q : Exit → Act → World → Prop} (d s : Operand) (dT sT : TypeId)
    (elem : TypeId) (hu : P.underlying dT = some (.slice elem)) (hsz : (P.info? elem).map (·.size) = some 1)
    (g off dLen dCap : Nat) (ad : Addr) (sLen sCap : Nat)
    (hop : o.guard = none ∧ o.op = .call { callee := .builtin .copy, args := #[d, s], argTypes := #[dT, sT] } ∧ a.eval d = .slice (some ⟨g, off, none⟩) dLen dCap ∧ a.eval s = .slice (some ad) sLen sCap)
    (cur : List Value) (t : TypeId) (hg : w.heap[g]? = some (.cells cur.toArray t (0, 0))) (cs : List Value) (hn : cs.length = Nat.min sLen dLen)
    (hsrc : ∀ j v, cs[j]? = some v → w.cell? (ad.add j) = some v) (hfit : off + cs.length ≤ cur.length) (h1 : ∀ v ∈ cs, v.oneCell' = true)
    (h : ∀ w', Hid (w'.heap[g]? = some (.cells (splice cur off cs).toArray t (0, 0))) → Hid (w.grownBy w' (some g)) → wpList P ops Q rest (a.put o.dst (goInt cs.length)) w') : wpList P ops Q (o :: rest) a w :=
  wpList_copy_g hop.1 d s dT sT hop.2.1 elem hu hsz g off dLen dCap ad sLen sCap hop.2.2.1 hop.2.2.2 cur t hg cs hn hsrc hfit h1 h

theorem step_copy_g {P : Program} {ops : Array Oper} {o : Oper} {a : Act} {w : World} {K : Act → World → Prop} {Q : Exit → Act → World → Prop} {E : Prop} (hgd : o.guard = none) (d s : Operand) (dT sT : TypeId)
    (ho : o.op = .call { callee := .builtin .copy, args := #[d, s], argTypes := #[dT, sT] }) (elem : TypeId) (hu : P.underlying dT = some (.slice elem)) (hsz : (P.info? elem).map (·.size) = some 1)
    (g off dLen dCap : Nat) (ad : Addr) (sLen sCap : Nat) (hd : a.eval d = .slice (some ⟨g, off, none⟩) dLen dCap) (hs : a.eval s = .slice (some ad) sLen sCap)
    (cur : List Value) (t : TypeId) (hg : w.heap[g]? = some (.cells cur.toArray t (0, 0))) (cs : List Value) (hn : cs.length = Nat.min sLen dLen)
    (hsrc : ∀ j v, cs[j]? = some v → w.cell? (ad.add j) = some v) (hfit : off + cs.length ≤ cur.length) (h1 : ∀ v ∈ cs, v.oneCell' = true)
    (h : ∀ w', Hid (w'.heap[g]? = some (.cells (splice cur off cs).toArray t (0, 0))) → Hid (w.grownBy w' (some g)) → K (a.put o.dst (goInt cs.length)) w') :
    if Region.wanted o (yielded ops a.tmps) = true then Oper.wp P o a w K Q else E := by
  have hw : Region.wanted o (yielded ops a.tmps) = true := by simp [Region.wanted, hgd]
  rw [if_pos hw]
  obtain ⟨w', hrun, h2, h3⟩ := run_copy_g (P := P) w dT sT o.type elem g off dLen dCap ad sLen sCap cur t cs hu hsz hg hn hsrc hfit h1
  unfold Oper.wp
  simp [execOp, ho, resolve, invoke, builtin, hd, hs, hrun, Result.andThen]
  exact h w' h2 h3

/-- the same, the slot that is written named -/
theorem step_copy_d {P : Program} {ops : Array Oper} {o : Oper} {a : Act} {w : World} {K : Act → World → Prop} {Q : Exit → Act → World → Prop} {E : Prop} (hgd : o.guard = none) (dst : Option Tmp) (hdst : o.dst = dst) (d s : Operand) (dT sT : TypeId)
    (ho : o.op = .call { callee := .builtin .copy, args := #[d, s], argTypes := #[dT, sT] }) (elem : TypeId) (hu : P.underlying dT = some (.slice elem)) (hsz : (P.info? elem).map (·.size) = some 1)
    (g off dLen dCap : Nat) (ad : Addr) (sLen sCap : Nat) (hd : a.eval d = .slice (some ⟨g, off, none⟩) dLen dCap) (hs : a.eval s = .slice (some ad) sLen sCap)
    (cur : List Value) (t : TypeId) (hg : w.heap[g]? = some (.cells cur.toArray t (0, 0))) (cs : List Value) (hn : cs.length = Nat.min sLen dLen)
    (hsrc : ∀ j v, cs[j]? = some v → w.cell? (ad.add j) = some v) (hfit : off + cs.length ≤ cur.length) (h1 : ∀ v ∈ cs, v.oneCell' = true) (r : Nat) (hr : cs.length = r)
    (h : ∀ w', Hid (w'.heap[g]? = some (.cells (splice cur off cs).toArray t (0, 0))) → Hid (w.grownBy w' (some g)) → K (a.put dst (.int .i64 r)) w') :
    if Region.wanted o (yielded ops a.tmps) = true then Oper.wp P o a w K Q else E := by
  subst hdst
  subst hr
  exact step_copy_g hgd d s dT sT ho elem hu hsz g off dLen dCap ad sLen sCap hd hs cur t hg cs hn hsrc hfit h1 h

/-- 'append(s[:i], make([]T, k)...)' where it must grow: a new row at the heap's end, its first cells the olds, then k zero values. -/
theorem wpList_append_zeros_g {P : Program} (w : World) {ops : Array Oper} {rest : List Oper} {o : Oper} {a : Act} {Q : Exit → Act → World → Prop} (hgd : o.guard = none) (s x : Operand) (t tn : TypeId)
    (ho : o.op = .call { callee := .builtin .append, args := #[s, x], argTypes := #[t, tn] })
    (e : TypeId) (i : TypeInfo) (z : Value) (bytes : Nat) (kn : IntKind) (ht : P.underlying t = some (.slice e)) (htn : P.underlying tn = some (.int kn)) (hi : P.info? e = some i) (hz : i.zero = some z)
    (hsize : i.size = 1) (hby : i.bytes = bytes) (hzs : z.cells.size = 1)
    (ad : Addr) (sLen sCap : Nat) (olds : List Value) (hol : olds.length = sLen) (hold : ∀ j v, olds[j]? = some v → w.cell? (ad.add j) = some v)
    (k : Nat) (kq : IntKind) (kk : Int) (hkk : kk = k) (h0 : 0 < k) (hg : sCap < sLen + k) (h63 : sLen + k ≤ maxLen) (hbytes : (sLen + k) * bytes ≤ 140737488355328)
    (hs : a.eval s = .slice (some ad) sLen sCap) (hx : a.eval x = .int kq kk)
    (h : ∀ (w' : World) (cap : Nat) (cur : List Value), Hid (w'.heap[w.heap.size]? = some (.cells cur.toArray e (0, 0)) ∧ cur.length = cap ∧ cur.take sLen = olds ∧ sLen + k ≤ cap ∧ cap ≤ maxLen) → Hid (w.grownBy w' none) →
      wpList P ops Q rest (a.put o.dst (.slice (some ⟨w.heap.size, 0, none⟩) (sLen + k) cap)) w') : wpList P ops Q (o :: rest) a w := by
  subst hkk
  have hfc : (Builtin.firstCells i.size sLen (.slice (some ad) sLen sCap)).run P w.drew = .ok olds.toArray w.drew := by
    rw [hsize]
    exact run_firstCells_some w.drew 1 sLen ad sLen sCap olds (by omega) hold
  have hr := Lib.run_append_grow_zeros (P := P) w t tn o.type e i z kq kn ht htn hi hz (some ad) sLen sCap olds hfc k h0 (by omega) hg (by unfold maxLen at h63; omega)
    (by rw [hby]; have : k * bytes ≤ (sLen + k) * bytes := Nat.mul_le_mul_right _ (by omega); omega) (by rw [hby]; exact growslice_fits hg hbytes)
  refine Lib.wpList_append_run w hgd s x t tn ho _ _ hs hx _ _ hr ?_
  have hge := grownCap_ge w (sLen + k) sCap e
  have hle := grownCap_le_maxLen w (sLen + k) sCap e h63
  refine h _ _ (olds ++ (Builtin.zeroCells z.cells k).toList ++ (Builtin.zeroCells z.cells (grownCap w (sLen + k) sCap e - (sLen + k))).toList) ⟨?_, ?_, ?_, hge, hle⟩ ?_
  · rw [show w.heap.size = w.drew.heap.size from rfl, heap_alloc_new]; simp
  · simp [size_zeroCells, hzs, hol]; omega
  · rw [List.append_assoc, List.take_append_of_le_length (by omega), List.take_of_length_le (by omega)]
  · exact ⟨rfl, rfl, rfl, by simp, fun k hk _ => Below.heap_alloc w.drew _ k hk⟩

theorem append_two {P : Program} (w : World) (t tx ty e e' : TypeId) (ht : P.underlying t = some (.slice e)) (htx : P.underlying tx = some (.slice e')) (i : TypeInfo) (hi : P.info? e = some i) (b : Option Addr) (l c : Nat) (x : Value) :
    (Builtin.append_ #[t, tx] ty #[.slice b l c, x]).run P w = (Builtin.append_ #[t, t] ty #[.slice b l c, x]).run P w := by
  simp [Builtin.append_, run_underlying ht, run_underlying htx, sizeOf, typeInfo, hi]

/-- where the row lies behind an append: where it lay, or in a new block -/
def AppBlk (v v' : Value) (n sz : Nat) : Prop := ∃ g' c', v' = .slice (some ⟨g', 0, none⟩) n c' ∧ (v.ownBlock = some g' ∨ g' = sz)

theorem append_block {P : Program} (w : World) (base : Nat) (t ty e : TypeId) (i : TypeInfo) (z : Value) (size bytes : Nat) (ht : P.underlying t = some (.slice e)) (hi : P.info? e = some i) (hz : i.zero = some z)
    (hsize : i.size = size) (hby : i.bytes = bytes) (hzs : z.cells.size = size) (hsz : 0 < size)
    (v : Value) (n : Nat) (xs : List Value) (hown : w.ownsRow base e size v n xs)
    (a : Addr) (m c : Nat) (news : List Value) (hl : news.length = m * size) (hnews : ∀ j u, news[j]? = some u → w.cell? (a.add j) = some u) (h1 : ∀ u ∈ news, u.oneCell' = true)
    (h63 : n + m ≤ maxLen) (hbytes : (n + m) * bytes ≤ 140737488355328) (hm : 0 < m) (v' : Value) (w' : World)
    (hr : (Builtin.append_ #[t, t] ty #[v, .slice (some a) m c]).run P w = .ok v' w') : AppBlk v v' (n + m) w.heap.size := by
  subst hsize
  subst hby
  unfold maxLen at h63
  rcases hown.2 with ⟨rfl, rfl⟩ | ⟨g, cap, cur, rfl, hbg, hg, hnc, hcm, hcs, htake⟩
  · have hr2 := run_append_nil (P := P) w t ty e i z ht hi hz a m c news hl hnews (by omega) (by omega) (by have hb := hbytes; simp only [Nat.zero_add] at hb; omega)
    rw [hr] at hr2
    simp only [Result.ok.injEq] at hr2
    exact ⟨_, _, by simpa using hr2.1, .inr rfl⟩
  · by_cases hroom : n + m ≤ cap
    · have hfit : n * i.size + news.length ≤ cur.size := by rw [hl, hcs, ← Nat.add_mul]; exact Nat.mul_le_mul_right _ hroom
      have hr2 := run_append_room (P := P) w t ty e i ht hi g n cap cur hg a m c news hl hnews h1 hroom hfit
      rw [hr] at hr2
      simp only [Result.ok.injEq] at hr2
      exact ⟨_, _, hr2.1, .inl rfl⟩
    · have holds : ∀ j u, xs[j]? = some u → w.cell? ((⟨g, 0, none⟩ : Addr).add j) = some u := hown.cells (g := g) rfl
      have hr2 := run_append_grow (P := P) w t ty e i z ht hi hz ⟨g, 0, none⟩ n cap xs hown.1 holds a m c news hl hnews (by omega) (by omega) (growslice_fits (by omega) hbytes)
      rw [hr] at hr2
      simp only [Result.ok.injEq] at hr2
      exact ⟨_, _, hr2.1, .inr rfl⟩

theorem wpList_append_own2 {P : Program} (w : World) {ops : Array Oper} {rest : List Oper} {o : Oper} {a : Act} {Q : Exit → Act → World → Prop} (hgd : o.guard = none) (s x : Operand) (t tx : TypeId)
    (ho : o.op = .call { callee := .builtin .append, args := #[s, x], argTypes := #[t, tx] })
    (base : Nat) (e : TypeId) (i : TypeInfo) (z : Value) (size bytes : Nat) (ht : P.underlying t = some (.slice e)) (htx : P.underlying tx = some (.slice e)) (hi : P.info? e = some i) (hz : i.zero = some z)
    (hsize : i.size = size) (hby : i.bytes = bytes) (hzs : z.cells.size = size) (hsz : 0 < size)
    (v : Value) (n : Nat) (xs : List Value) (hs : a.eval s = v) (hown : w.ownsRow base e size v n xs)
    (ad : Addr) (m c : Nat) (news : List Value) (hx : a.eval x = .slice (some ad) m c) (hl : news.length = m * size) (hnews : ∀ j u, news[j]? = some u → w.cell? (ad.add j) = some u) (h1 : ∀ u ∈ news, u.oneCell' = true)
    (h63 : n + m ≤ maxLen) (hbytes : (n + m) * bytes ≤ 140737488355328) (hbase : base ≤ w.heap.size) (hm : 0 < m)
    (h : ∀ v' w', w'.ownsRow base e size v' (n + m) (xs ++ news) → w.grownBy w' v.ownBlock → AppBlk v v' (n + m) w.heap.size → wpList P ops Q rest (a.put o.dst v') w') : wpList P ops Q (o :: rest) a w := by
  obtain ⟨v', w', hr, h2, h3, h4⟩ := run_append_own (P := P) w base t o.type e i z size bytes ht hi hz hsize hby hzs hsz v n xs hown ad m c news hl hnews h1 h63 hbytes hbase
  have h5 := append_block w base t o.type e i z size bytes ht hi hz hsize hby hzs hsz v n xs hown ad m c news hl hnews h1 h63 hbytes hm v' w' hr
  obtain ⟨b, l, c', rfl⟩ : ∃ b l c', v = .slice b l c' := by
    rcases hown.2 with ⟨h, _⟩ | ⟨g', cap, cur, h, _⟩
    · exact ⟨_, _, _, h⟩
    · exact ⟨_, _, _, h⟩
  exact Lib.wpList_append_run w hgd s x t tx ho _ _ hs hx v' w' (by rw [append_two w t tx o.type e e ht htx i hi]; exact hr) (h v' w' h2 h3 h5)

/-- one cell put into a row's middle, in place -/
theorem splice_ins (cur cs : List Value) (n i : Nat) (x : Value) (hl : cs.length = n) (htk : cur.take n = cs) (hi : i < n) (hroom : n + 1 ≤ cur.length) :
    (splice (splice cur (i + 1) (cs.drop i)) i [x]).take (n + 1) = cs.take i ++ x :: cs.drop i ∧ (splice (splice cur (i + 1) (cs.drop i)) i [x]).length = cur.length := by
  have hd : (cs.drop i).length = n - i := by simp [hl]
  constructor
  · subst htk
    apply List.ext_getElem?
    intro j
    simp only [splice, List.getElem?_take, List.getElem?_append, List.getElem?_drop, List.length_take, List.length_drop, List.length_append, List.length_cons, List.length_nil, List.getElem?_cons]
    have e1 : min (i + 1) cur.length = i + 1 := by omega
    have e2 : min n cur.length = n := by omega
    have e3 : min i (i + 1 + (n - i + (cur.length - (i + 1 + (n - i))))) = i := by omega
    have e4 : min i n = i := by omega
    simp only [e1, e2, e3, e4]
    by_cases h1 : j < i
    · simp [h1, show j < n + 1 by omega, show j < i + 1 by omega, show j < n by omega]
    · by_cases h2 : j = i
      · subst h2; simp; omega
      · obtain ⟨q, rfl⟩ : ∃ q, j = i + 1 + q := ⟨j - i - 1, by omega⟩
        have f1 : ¬ (i + 1 + q < i) := by omega
        have f2 : ¬ (i + 1 + q - i < 1) := by omega
        have f3 : ¬ (i + 1 + q - i = 0) := by omega
        have f4 : i + 1 + q - i - 1 = q := by omega
        by_cases h3 : i + 1 + q < n + 1
        · have f5 : ¬ (i + 1 + q < i + 1) := by omega
          have f6 : q < n - i := by omega
          have f7 : i + q < n := by omega
          have f8 : i + 1 + q - (i + 1) = q := by omega
          simp [f1, f2, f3, f4, h3, f5, f6, f7, f8]
        · have f7 : ¬ (i + q < n) := by omega
          simp [f1, f3, f4, h3, f7]
  · rw [length_splice, length_splice] <;> (try rw [length_splice]) <;> simp [hl] <;> omega

/-- the same in a new row whose head was laid already -/
theorem splice_new (cur cs : List Value) (n i : Nat) (x : Value) (hl : cs.length = n) (htk : cur.take i = cs.take i) (hi : i < n) (hroom : n + 1 ≤ cur.length) :
    (splice (splice cur i [x]) (i + 1) (cs.drop i)).take (n + 1) = cs.take i ++ x :: cs.drop i ∧ (splice (splice cur i [x]) (i + 1) (cs.drop i)).length = cur.length := by
  have hd : (cs.drop i).length = n - i := by simp [hl]
  constructor
  · have e0 : (splice cur i [x]).take (i + 1) = cs.take i ++ [x] := by
      unfold splice
      rw [htk, ← List.append_assoc, List.take_append_of_le_length (by simp; omega), List.take_of_length_le (by simp; omega)]
    rw [splice, e0, ← List.append_assoc, List.take_append_of_le_length (by simp; omega), List.take_of_length_le (by simp; omega)]
    simp
  · rw [length_splice, length_splice] <;> (try rw [length_splice]) <;> simp [hl] <;> omega
end Go.Proofs.Ybulkbckm
