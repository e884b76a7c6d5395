import Derived.Test.YbulkbciwA3
import Derived.Laws.EntriesVeiled
namespace Go.Proofs.Ybulkbciw
open Go.RowKit Go.Shelf
attribute [local go_sem] Oper.semAt_some
set_option linter.unusedSimpArgs false
set_option linter.unusedVariables false

set_option maxHeartbeats 1000000 in
set_option maxRecDepth 100000 in
theorem mem45 (n l Be Bq B N m d : Nat) (t : T d) (vs is : Value) (J Jx : List (Fin 64) → World → Prop) (hm : m ≤ 1000)
    (hY : ∀ pre (x : Fin 64) W, J pre W → pre.length < N → YieldAt Fence.wide (n - 1) Yba.prog l #[.int .i64 ((x : Nat) : Int)] W fun e W' => (e = .returned (.bool true) ∧ J (pre ++ [x]) W' ∧ Kp B W W') ∨ (e = .returned (.bool false) ∧ Jx (pre ++ [x]) W'))
    (hJa : ∀ s W o, J s W → J s (W.alloc o)) (W : World) (hBe : W.cell? ⟨Be, 0, none⟩ = some (.func (.func 35) #[] #[])) (hBeB : Be ≠ B)
    (q0 : W.cell? ⟨Bq, 0, none⟩ = some (.int .u64 (thr d t : Nat))) (q1 : W.cell? ⟨Bq, 1, none⟩ = some vs) (q2 : W.cell? ⟨Bq, 2, none⟩ = some is)
    (hr : Rep (fun k => k ≠ B) m d W vs is t) (hv : ∀ v ∈ flat d t, 0 ≤ v ∧ v < 64) (hB : B < W.heap.size) (h0 : J [] W) (hN : (flat d t).length ≤ N) :
    CallsIn Fence.wide n Yba.prog 45 #[.func (.yield l) #[] #[], .pointer (some ⟨Be, 0, none⟩), .pointer (some ⟨Bq, 0, none⟩)] W fun e W' => (∃ v, e = .returned v) ∧
      ((∃ ys, ys = (flat d t).map f64 ∧ J ys W') ∨ (∃ pre, pre <+: (flat d t).map f64 ∧ Jx pre W')) := by
  obtain ⟨p1, n1, c1, p2, n2, c2, rfl, rfl⟩ := Rep.slices d _ _ _ hr
  obtain ⟨nt, hnt⟩ : ∃ k, thr d t = k := ⟨_, rfl⟩
  have hk2 : ∀ o o', Kp B W ((W.alloc o).alloc o') := fun o o' => (Kp.alloc B W o).trans (Kp.alloc B _ o')
  have hw := walk46 hm hJa (fun k pre x W' hj hl => yield_any rfl k (hY pre x W' hj hl)) d (n - 1) (.slice p1 n1 c1) (.slice p2 n2 c2) t W.heap.size Be (W.heap.size + 1) []
    ((W.alloc (.cells #[.func (.yield l) #[] #[]] 36)).alloc (.cells #[.func (.func 46) #[] #[.pointer (some ⟨W.heap.size, 0, none⟩), .pointer (some ⟨Be, 0, none⟩), .pointer (some ⟨W.heap.size + 1, 0, none⟩)]] 48))
    ((hk2 _ _).rep hr) hv ⟨by simp, cell_al (cell_al hBe _) _, by simp, by omega, hBeB, by omega⟩ (by simp; omega) (hJa _ _ _ (hJa _ _ _ h0)) (by simpa using hN)
  rw [hnt] at hw q0
  have e0 : ∀ o o', ((W.alloc o).alloc o').cell? ⟨Bq, 0, none⟩ = _ := fun o o' => cell_al (cell_al q0 o) o'
  have e1 : ∀ o o', ((W.alloc o).alloc o').cell? ⟨Bq, 1, none⟩ = _ := fun o o' => cell_al (cell_al q1 o) o'
  have e2 : ∀ o o', ((W.alloc o).alloc o').cell? ⟨Bq, 2, none⟩ = _ := fun o o' => cell_al (cell_al q2 o) o'
  clear hk2 hr hv hN hJa hY hnt h0 hBe
  refine callsIn_of_wp Yba.func45 rfl trivial ?_ rfl
  simp only [Yba.ntmps45, List.size_toArray, List.length_cons, List.length_nil, Nat.reduceAdd, Nat.reduceSub, Array.replicate_succ, Array.replicate_zero, List.push_toArray, List.append_toArray, List.nil_append, List.cons_append]
  gi_wp2
  refine ⟨trivial, fun h => (by cases h), ?_⟩
  refine hw.mono ?_
  clear hw
  rintro e W1 (⟨rfl, hJ1, _⟩ | ⟨rfl, q, hq, hx⟩)
  · gi_wp2
    go_end0
    exact ⟨⟨_, rfl⟩, .inl ⟨_, rfl, by simpa using hJ1⟩⟩
  · gi_wp2
    go_end0
    exact ⟨⟨_, rfl⟩, .inr ⟨q, hq, by simpa using hx⟩⟩

set_option maxHeartbeats 400000 in
theorem mem34 (n a : Nat) (p1 : Option Addr) (n1 c1 : Nat) (p2 : Option Addr) (n2 c2 : Nat) (w : World) :
    CallsIn Fence.wide n Yba.prog 34 #[.agg #[.int .u64 a, .slice p1 n1 c1, .slice p2 n2 c2], .func (.func 35) #[] #[]] w fun e w' => e = .returned (.func (.func 45) #[] #[.pointer (some ⟨w.heap.size + 1, 0, none⟩), .pointer (some ⟨w.heap.size, 0, none⟩)]) ∧
      w' = (w.alloc (.cells #[.int .u64 a, .slice p1 n1 c1, .slice p2 n2 c2] 30)).alloc (.cells #[.func (.func 35) #[] #[]] 48) := by
  refine callsIn_wide.2 ?_
  go_enter Yba.func34, Yba.ntmps34
  go_wp2
  go_ret
  exact ⟨rfl, rfl⟩

/-- the iterator that members hands back -/
theorem members_stops (n Be Bq B m d : Nat) (t : T d) (vs is : Value) (hm : m ≤ 1000) (w : World) (hBe : w.cell? ⟨Be, 0, none⟩ = some (.func (.func 35) #[] #[])) (hBeB : Be ≠ B)
    (q0 : w.cell? ⟨Bq, 0, none⟩ = some (.int .u64 (thr d t : Nat))) (q1 : w.cell? ⟨Bq, 1, none⟩ = some vs) (q2 : w.cell? ⟨Bq, 2, none⟩ = some is)
    (hr : Rep (fun k => k ≠ B) m d w vs is t) (hv : ∀ v ∈ flat d t, 0 ≤ v ∧ v < 64) (hB : B < w.heap.size) :
    SeqStopsK Fence.wide n Yba.prog 45 #[.pointer (some ⟨Be, 0, none⟩), .pointer (some ⟨Bq, 0, none⟩)] (fun x : Fin 64 => #[Value.int .i64 ((x : Nat) : Int)]) (Kp B) (fun ys => ys = (flat d t).map f64) (fun pre => pre <+: (flat d t).map f64) (flat d t).length w :=
  fun l J Jx W hW hJ _ hY h0 =>
    have hc : ∀ {a v}, w.cell? a = some v → W.cell? a = some v := fun {a v} e => by rw [World.cell?_of_block (w := w) (hW.block _ (cell_lt e))]; exact e
    mem45 n l Be Bq B (flat d t).length m d t vs is J Jx hm hY (fun s W' o hj => hJ s W' _ none hj (World.grownBy_alloc W' o none) (fun r e => by cases e)) W (hc hBe) hBeB (hc q0) (hc q1) (hc q2) (hr.below hW) hv (Nat.lt_of_lt_of_le hB hW.size) h0 (Nat.le_refl _)

/-- the bit set's word, these having come -/
def wordFrom : Nat → List (Fin 64) → Nat
  | m, [] => m
  | m, x :: xs => wordFrom (m ||| 2 ^ (x : Nat)) xs
def word (xs : List (Fin 64)) : Nat := wordFrom 0 xs
theorem wordFrom_snoc : (m : Nat) → (xs : List (Fin 64)) → (x : Fin 64) → wordFrom m (xs ++ [x]) = wordFrom m xs ||| 2 ^ (x : Nat)
  | _, [], _ => rfl
  | m, y :: xs, x => wordFrom_snoc (m ||| 2 ^ (y : Nat)) xs x
theorem word_snoc (xs : List (Fin 64)) (x : Fin 64) : word (xs ++ [x]) = word xs ||| 2 ^ (x : Nat) := wordFrom_snoc 0 xs x
theorem wordFrom_bit (k : Nat) (hk : k < 64) : (m : Nat) → (xs : List (Fin 64)) → (wordFrom m xs).testBit k = (m.testBit k || decide ((⟨k, hk⟩ : Fin 64) ∈ xs))
  | m, [] => by simp [wordFrom]
  | m, x :: xs => by
    unfold wordFrom
    rw [wordFrom_bit k hk, Nat.testBit_or, Nat.testBit_two_pow]
    by_cases h : (x : Nat) = k
    · have : x = ⟨k, hk⟩ := Fin.ext h
      simp [this]
    · have : ¬ ((⟨k, hk⟩ : Fin 64) = x) := fun e => h (by rw [← e])
      simp [h, this]
theorem word_bit (xs : List (Fin 64)) (x : Fin 64) : (word xs).testBit x = decide (x ∈ xs) := by
  unfold word
  rw [wordFrom_bit x x.2]
  simp
theorem wordFrom_lt : (m : Nat) → (xs : List (Fin 64)) → m < 2 ^ 64 → wordFrom m xs < 2 ^ 64
  | _, [], h => h
  | m, x :: xs, h => wordFrom_lt _ xs (Nat.or_lt_two_pow h (Nat.pow_lt_pow_right (by decide) x.2))
theorem word_lt (xs : List (Fin 64)) : word xs < 18446744073709551616 := wordFrom_lt 0 xs (by decide)

theorem flat_nodup {l : List Int} (h : ∀ v ∈ l, 0 ≤ v ∧ v < 64) : (l.map f64).Nodup ↔ l.Nodup := by
  constructor
  · intro hn
    exact List.Pairwise.of_map f64 (fun a b hab e => hab (by rw [e])) hn
  · intro hn
    rw [List.Nodup, List.pairwise_map]
    refine List.Pairwise.imp_of_mem (fun {a b} ha hb hab e => hab ?_) hn
    rw [← f64_val (h a ha).1 (h a ha).2, ← f64_val (h b hb).1 (h b hb).2, e]
end Go.Proofs.Ybulkbciw
