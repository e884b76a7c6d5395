import Derived.Test.YbulkbciwK3
import Derived.Laws.AppendOwn
import Derived.Lib.AppendZeros
namespace Go.Proofs.Ybulkbciw
open Go.RowKit
set_option linter.unusedSimpArgs false
set_option linter.unusedVariables false

/-- where the row lies behind an append: where it lay, or in a new block -/
theorem append_block {P : Program} (w : World) (base : Nat) (t ty e : TypeId) (i : TypeInfo) (z : Value) (size bytes : Nat) (ht : P.underlying t = some (.slice e)) (hi : P.info? e = some i) (hz : i.zero = some z)
    (hsize : i.size = size) (hby : i.bytes = bytes) (hzs : z.cells.size = size) (hsz : 0 < size)
    (v : Value) (n : Nat) (xs : List Value) (hown : w.ownsRow base e size v n xs)
    (a : Addr) (m c : Nat) (news : List Value) (hl : news.length = m * size) (hnews : ∀ j u, news[j]? = some u → w.cell? (a.add j) = some u) (h1 : ∀ u ∈ news, u.oneCell' = true)
    (h63 : n + m ≤ maxLen) (hbytes : (n + m) * bytes ≤ 140737488355328) (hm : 0 < m) (v' : Value) (w' : World)
    (hr : (Builtin.append_ #[t, t] ty #[v, .slice (some a) m c]).run P w = .ok v' w') : ∃ g' c', v' = .slice (some ⟨g', 0, none⟩) (n + m) c' ∧ (v.ownBlock = some g' ∨ g' = w.heap.size) := by
  subst hsize
  subst hby
  unfold maxLen at h63
  rcases hown.2 with ⟨rfl, rfl⟩ | ⟨g, cap, cur, rfl, hbg, hg, hnc, hcm, hcs, htake⟩
  · have hr2 := run_append_nil (P := P) w t ty e i z ht hi hz a m c news hl hnews (by omega) (by omega) (by have hb := hbytes; simp only [Nat.zero_add] at hb; omega)
    rw [hr] at hr2
    simp only [Result.ok.injEq] at hr2
    exact ⟨_, _, by simpa using hr2.1, .inr rfl⟩
  · by_cases hroom : n + m ≤ cap
    · have hfit : n * i.size + news.length ≤ cur.size := by rw [hl, hcs, ← Nat.add_mul]; exact Nat.mul_le_mul_right _ hroom
      have hr2 := run_append_room (P := P) w t ty e i ht hi g n cap cur hg a m c news hl hnews h1 hroom hfit
      rw [hr] at hr2
      simp only [Result.ok.injEq] at hr2
      exact ⟨_, _, hr2.1, .inl rfl⟩
    · have holds : ∀ j u, xs[j]? = some u → w.cell? ((⟨g, 0, none⟩ : Addr).add j) = some u := hown.cells (g := g) rfl
      have hr2 := run_append_grow (P := P) w t ty e i z ht hi hz ⟨g, 0, none⟩ n cap xs hown.1 holds a m c news hl hnews (by omega) (by omega) (growslice_fits (by omega) hbytes)
      rw [hr] at hr2
      simp only [Result.ok.injEq] at hr2
      exact ⟨_, _, hr2.1, .inr rfl⟩

theorem info3 : (Yba.prog.info? 3).map (fun i => (i.zero, i.size, i.bytes)) = some (some (.int .i64 0), 1, 8) := by kernel_rfl
theorem info30 : (Yba.prog.info? 30).map (fun i => (i.zero, i.size, i.bytes)) = some (some (.agg #[.int .u64 0, .slice none 0 0, .slice none 0 0]), 3, 56) := by kernel_rfl

/-- the call's own row of cells, size cells an element -/
def Own (w : World) (base e size : Nat) (p : Option Addr) (n c : Nat) (xs : List Value) : Prop := w.ownsRow base e size (.slice p n c) n xs

theorem Own.nil (w : World) (base e size : Nat) : Own w base e size none 0 0 [] := World.ownsRow_nil w base e size
theorem Own.fr {S : Nat → Prop} {w w' : World} {base e size : Nat} {p : Option Addr} {n c : Nat} {xs : List Value} (h : Own w base e size p n c xs) (f : Fr S w w') (hS : ∀ k o s, p = some ⟨k, o, s⟩ → ¬ S k) : Own w' base e size p n c xs :=
  f.owns h (fun k e => by
    rcases h.2 with ⟨e2, _⟩ | ⟨g, cap, cur, e2, _⟩
    · cases e2; simp [Value.ownBlock] at e
    · cases e2; simp [Value.ownBlock] at e; subst e; exact hS _ _ _ rfl)
/-- where its cells lie -/
theorem Own.at {w : World} {base e size : Nat} {p : Option Addr} {n c : Nat} {xs : List Value} (h : Own w base e size p n c xs) : (p = none ∧ n = 0 ∧ c = 0 ∧ xs = []) ∨ ∃ g, p = some ⟨g, 0, none⟩ ∧ base ≤ g ∧ g < w.heap.size ∧ (∀ j u, xs[j]? = some u → w.cell? ⟨g, j, none⟩ = some u) ∧ (∀ j, w.frozen? ⟨g, j, none⟩ = false) := by
  rcases h.2 with ⟨e2, e3⟩ | ⟨g, cap, cur, e2, hb, hg, h1, h2, h3, h4⟩
  · have h0 := h.1
    cases e2; exact .inl ⟨rfl, rfl, rfl, List.length_eq_zero_iff.1 (by simpa using h0)⟩
  · cases e2
    refine .inr ⟨g, rfl, hb, lt_of_block hg, fun j u hj => ?_, fun j => by simp [World.frozen?, hg]⟩
    have := h.cells (g := g) rfl j u hj
    rwa [show (⟨g, 0, none⟩ : Addr).add j = ⟨g, j, none⟩ by unfold Addr.add; split <;> simp_all] at this

theorem add_none (b off i : Nat) : (⟨b, off, none⟩ : Addr).add i = ⟨b, off + i, none⟩ := by unfold Addr.add; split <;> simp_all

/-- append of one element, whatever room there is -/
theorem app_own (w : World) (t e : TypeId) (size bytes : Nat) (z : Value) (hu : Yba.prog.underlying t = some (.slice e)) (hinfo : (Yba.prog.info? e).map (fun i => (i.zero, i.size, i.bytes)) = some (some z, size, bytes)) (hzs : z.cells.size = size) (hsz : 0 < size) (hby : bytes ≤ 64)
    (base : Nat) (p : Option Addr) (n c : Nat) (xs news : List Value) (h : Own w base e size p n c xs) (hb : base ≤ w.heap.size) (hn : n ≤ 100000) (hl : news.length = size) (h1 : ∀ u ∈ news, u.oneCell' = true) :
    ∃ g' c' w', (Builtin.append_ #[t, t] t #[.slice p n c, .slice (some ⟨w.heap.size, 0, none⟩) 1 1]).run Yba.prog (w.alloc (.cells news.toArray e)) = .ok (.slice (some ⟨g', 0, none⟩) (n + 1) c') w' ∧ Own w' base e size (some ⟨g', 0, none⟩) (n + 1) c' (xs ++ news) ∧
      Fr (fun k => p = some ⟨k, 0, none⟩) w w' ∧ (p = some ⟨g', 0, none⟩ ∨ g' = w.heap.size + 1) ∧ w.heap.size < w'.heap.size := by
  obtain ⟨i0, hi0, hz⟩ := Option.map_eq_some_iff.1 hinfo
  simp only [Prod.mk.injEq] at hz
  have hown : (w.alloc (.cells news.toArray e)).ownsRow base e size (.slice p n c) n xs := World.ownsRow.alloc h _
  have hc : ∀ j u, news[j]? = some u → (w.alloc (.cells news.toArray e)).cell? ((⟨w.heap.size, 0, none⟩ : Addr).add j) = some u := by
    intro j u hj
    rw [add_none]
    unfold World.cell?
    simp only [heap_alloc_new]
    simp [hj]
  have hm1 : n + 1 ≤ maxLen := by unfold maxLen; omega
  have hm2 : (n + 1) * bytes ≤ 140737488355328 := Nat.le_trans (Nat.mul_le_mul (by omega : n + 1 ≤ 100001) hby) (by decide)
  obtain ⟨v', w', hr, h2, h3, h4⟩ := run_append_own (P := Yba.prog) (w.alloc (.cells news.toArray e)) base t t e i0 z size bytes hu hi0 hz.1 hz.2.1 hz.2.2 hzs hsz (.slice p n c) n xs hown ⟨w.heap.size, 0, none⟩ 1 1 news (by simpa using hl) hc h1 hm1 hm2 (by simp; omega)
  obtain ⟨g', c', rfl, hg'⟩ := append_block (P := Yba.prog) (w.alloc (.cells news.toArray e)) base t t e i0 z size bytes hu hi0 hz.1 hz.2.1 hz.2.2 hzs hsz (.slice p n c) n xs hown ⟨w.heap.size, 0, none⟩ 1 1 news (by simpa using hl) hc h1 hm1 hm2 (by decide) v' w' hr
  have hob : ∀ k, (Value.slice p n c).ownBlock = some k → p = some ⟨k, 0, none⟩ := by
    intro k hk
    rcases h.2 with ⟨e2, _⟩ | ⟨g, cap, cur, e2, _⟩
    · cases e2; simp [Value.ownBlock] at hk
    · cases e2; simp [Value.ownBlock] at hk; rw [hk]
  refine ⟨g', c', w', hr, h2, ?_, ?_, ?_⟩
  · exact ((Fr.refl (fun k => p = some ⟨k, 0, none⟩) w).alloc _).trans (Fr.ofGrown h3) (fun k _ e => hob k e.symm)
  · rcases hg' with hg' | hg'
    · exact .inl (hob _ hg')
    · exact .inr (by simpa using hg')
  · have := h3.size
    simp at this
    omega

/-- of an own row of ints what Rep asks -/
theorem Own.ints {w : World} {base : Nat} {p : Option Addr} {n c : Nat} {u : List Int} (h : Own w base 3 1 p n c (u.map (Value.int .i64))) : IntRow (fun k => base ≤ k) w p u := by
  rcases h.at with ⟨_, _, _, h⟩ | ⟨g, e, hb, _, hc, _⟩
  · exact .inl (by simpa using h)
  · exact .inr ⟨g, e, hb, fun i hi => hc i _ (by simp [hi])⟩
theorem Own.len {w : World} {base e size : Nat} {p : Option Addr} {n c : Nat} {xs : List Value} (h : Own w base e size p n c xs) : xs.length = n * size := h.1

/-- a row of int8s that came in -/
def I8 (w : World) (p : Option Addr) (n : Nat) : Prop := ∀ i, i < n → ∃ b off x, p = some ⟨b, off, none⟩ ∧ w.cell? ⟨b, off + i, none⟩ = some (.int .i8 x)
theorem I8.below {w w' : World} {p : Option Addr} {n : Nat} (h : I8 w p n) (hb : Below w.heap.size w w') : I8 w' p n := fun i hi => by
  obtain ⟨b, off, x, e, hc⟩ := h i hi
  refine ⟨b, off, x, e, ?_⟩
  rw [World.cell?_of_block (w := w) (hb.block _ (cell_lt hc))]
  exact hc

set_option maxHeartbeats 1000000 in
theorem ints28 (p : Option Addr) (n c : Nat) (w : World) (h : I8 w p n) (hn : n ≤ 256) :
    Calls Yba.prog 28 #[.slice p n c] w fun e w' => ∃ q c' u, e = .returned (.slice q n c') ∧ u.length = n ∧ IntRow (fun k => w.heap.size ≤ k) w' q u ∧ Below w.heap.size w w' := by
  have HI : Hid (I8 w p n) := h
  clear h
  go_enter Yba.func28, Yba.ntmps28
  go_wp2
  go_loopw [3, 8] (fun v i wr => ∃ (k : Nat) (q : Option Addr) (c' : Nat) (u : List Int), i = .int .i64 k ∧ k ≤ n ∧ v = .slice q k c' ∧ u.length = k ∧ Own wr w.heap.size 3 1 q k c' (u.map (Value.int .i64)) ∧ Below w.heap.size w wr) (fun _ i _ => n - (intOf i).toNat)
  case atStart => exact ⟨0, none, 0, [], rfl, Nat.zero_le _, rfl, rfl, Own.nil _ _ _ _, Below.refl _ _⟩
  case round =>
    obtain ⟨k, q, c', u, rfl, hk, rfl, hu, hown, hb⟩ := hrel
    by_cases hlt : k < n
    · obtain ⟨b, off, x, e, hc⟩ := HI.out.below hb k hlt
      subst e
      obtain ⟨g', c2, w2, r, o2, f2, _, _⟩ := app_own wr 27 3 1 8 (.int .i64 0) Yba.underlying27 info3 rfl (by decide) (by decide) w.heap.size q k c' (u.map (Value.int .i64)) [.int .i64 (wrap64 x)] hown hb.size (by omega) rfl (by intro u hu; simp at hu; subst hu; rfl)
      have HR : Hid _ := r
      have HO : Hid (Own w2 w.heap.size 3 1 (some ⟨g', 0, none⟩) (k + 1) c2 ((u ++ [wrap64 x]).map (Value.int .i64)) ∧ Below w.heap.size w w2) := ⟨by rw [List.map_append]; exact o2, hb.trans (f2.toBelow hb.size (fun j hj e => by
        rcases hown.at with ⟨e2, _⟩ | ⟨g, e2, hbg, _⟩
        · rw [e2] at e; cases e
        · rw [e2] at e; cases e; omega))⟩
      clear r o2 f2 hown hb
      go_wp2_with (at_builtin; refine Lib.wpList_append_run _ rfl _ _ 27 27 rfl _ _ rfl rfl _ _ HR.out ?_)
      go_roundw
      case rel => exact ⟨k + 1, some ⟨g', 0, none⟩, c2, u ++ [wrap64 x], by go_num, by omega, rfl, by simp [hu], HO.out.1, HO.out.2⟩
      case measure => simp [intOf]; omega
    · obtain rfl : k = n := by omega
      have HO : Hid (IntRow (fun k => w.heap.size ≤ k) wr q u ∧ Below w.heap.size w wr) := ⟨hown.ints, hb⟩
      clear hown hb
      go_wp2
      go_ret
      exact ⟨q, c', u, rfl, hu, HO.out.1, HO.out.2⟩
end Go.Proofs.Ybulkbciw
