import Derived.Test.YbulkbcgeInsert2
import Derived.Test.YbulkbcgePut
import Derived.Test.YbulkbcgeCheck
import Derived.Test.YbulkbcgePlain
namespace Go.Proofs.Ybulkbcge
open Go.RowKit
set_option linter.unusedSimpArgs false
set_option linter.unusedVariables false

/-- the state of the run behind t values, t > 0; B: the heap's size when the call began -/
structure Full (B : Nat) (d : Bool) (t ga C : Nat) (K : List Chk) (m : List Int) (q : Int) (bm cm : Nat) (w : World) : Prop where
  mown : w.ownsRow (B + 1 + 1 + 1) 3 1 (.slice (some ⟨bm, 0, none⟩) t cm) t (iv m)
  mlen : m.length = t
  st : Store (B + 1 + 1 + 1) (B + 1) ga C K w
  inv : PInv d (K.map (·.2.2)) m
  tick : Tick (B + 1 + 1) B d q w
  q0 : 0 ≤ q
  q1 : q ≤ 20000 * t
  klen : K.length ≤ t
  kpos : K ≠ []
  ap : ∀ k ∈ K, k.1 ≠ bm
  size : B + 1 + 1 + 1 ≤ w.heap.size

/-- behind the insertion, ahead of 'put' -/
structure Half (B : Nat) (d : Bool) (t ga C : Nat) (K : List Chk) (m : List Int) (v : Int) (q : Int) (mv : Value) (w : World) : Prop where
  mown : w.ownsRow (B + 1 + 1 + 1) 3 1 mv t (iv m)
  mlen : m.length = t
  st : Store (B + 1 + 1 + 1) (B + 1) ga C K w
  inv : ∀ k, k ≤ m.length → (∀ s, s < k → kd d (m.getD s 0) < kd d v) → (k < m.length → kd d v ≤ kd d (m.getD k 0)) → PInv d (K.map (·.2.2)) (insAt m k v)
  tick : Tick (B + 1 + 1) B d q w
  q0 : 0 ≤ q
  q1 : q ≤ 20000 * (t + 1)
  klen : K.length ≤ t + 1
  kpos : K ≠ []
  ap : ∀ k ∈ K, ∀ b, mv.ownBlock = some b → k.1 ≠ b
  size : B + 1 + 1 + 1 ≤ w.heap.size

theorem half_empty {B : Nat} {d : Bool} {v : Int} {ga C g c : Nat} {w w1 : World} (hT : Tick (B + 1 + 1) B d 0 w) (hsz : B + 1 + 1 + 1 ≤ w.heap.size)
    (hst : Store (B + 1 + 1 + 1) (B + 1) ga C [(g, c, [v])] w1) (hF : Fr (fun b => b = B + 1) w w1) : Half B d 0 ga C [(g, c, [v])] [] v 0 (.slice none 0 0) w1 := by
  refine ⟨World.ownsRow_nil _ _ _ _, rfl, hst, fun k hk _ _ => ?_, hT.kept hF (by omega) (by omega), by omega, by omega, by simp, by simp, fun k _ b hb => by simp [Value.ownBlock] at hb, Nat.le_trans hsz hF.size⟩
  simp at hk
  subst hk
  refine ⟨by simp [insAt], by simp [insAt, Srt], by simp, .inl (by simp)⟩

theorem half_some {B : Nat} {d : Bool} {v : Int} {t ga C bm cm ga' C' : Nat} {K K' : List Chk} {m : List Int} {q q' : Int} {w w1 : World} (h : Full B d t ga C K m q bm cm w)
    (hst : Store (B + 1 + 1 + 1) (B + 1) ga' C' K' w1) (hX : Xstep d v (K.map (·.2.2)) (K'.map (·.2.2))) (hT : Tick (B + 1 + 1) B d q' w1) (hq1 : q < q') (hq2 : q' ≤ q + 20000)
    (hF : Fr (fun b => b = B + 1 ∨ b = B + 1 + 1 ∨ b = ga ∨ ∃ k ∈ K, k.1 = b) w w1) (hbl : ∀ k' ∈ K', (∃ k ∈ K, k.1 = k'.1) ∨ w.heap.size ≤ k'.1) :
    Half B d t ga' C' K' m v q' (.slice (some ⟨bm, 0, none⟩) t cm) w1 := by
  have hbm := own_base h.mown
  obtain ⟨cur, hbmc⟩ := own_block h.mown
  obtain ⟨cura, hga⟩ := own_block h.st.row
  have hbga : bm ≠ ga := fun e => by rw [e, hga] at hbmc; simp at hbmc
  have hbl2 := lt_of_block hbmc
  have h1 := h.q0
  have h2 := h.q1
  refine ⟨hF.owns h.mown (fun b hb => ?_), h.mlen, hst, fun k hk hlo hhi => (pstep h.inv hX hk hlo hhi).1, hT, by omega, by omega, ?_, ?_, fun k' hk' b hb => ?_, Nat.le_trans h.size hF.size⟩
  · simp [Value.ownBlock] at hb
    rw [← hb]
    rintro (e | e | e | ⟨k, hk, e⟩)
    · omega
    · omega
    · exact hbga e
    · exact h.ap k hk e
  · obtain ⟨i, xs, j, hx, hj, _, _, _, _, hX'⟩ := hX
    have e1 : (K'.map (·.2.2)).length ≤ (K.map (·.2.2)).length + 1 := by
      rw [hX']; split
      · simp
      · have := (List.getElem?_eq_some_iff.1 hx).1
        simp at this ⊢; omega
    simp at e1
    have := h.klen
    omega
  · intro e
    obtain ⟨i, xs, j, hx, hj, _, _, _, _, hX'⟩ := hX
    rw [e] at hX'
    have := (List.getElem?_eq_some_iff.1 hx).1
    split at hX'
    · have := congrArg List.length hX'; simp at this; exact h.kpos (List.eq_nil_of_length_eq_zero this.symm)
    · have := congrArg List.length hX'; simp at this
  · simp [Value.ownBlock] at hb
    rw [← hb]
    rcases hbl k' hk' with ⟨k, hk, e⟩ | e
    · rw [← e]; exact h.ap k hk
    · omega

theorem full_put {B : Nat} {d : Bool} {v : Int} {t ga C k bm' cm' : Nat} {K : List Chk} {m : List Int} {q : Int} {mv : Value} {w1 w2 : World} (h : Half B d t ga C K m v q mv w1) (hk : k ≤ m.length)
    (hlo : ∀ s, s < k → kd d (m.getD s 0) < kd d v) (hhi : k < m.length → kd d v ≤ kd d (m.getD k 0))
    (hown : w2.ownsRow (B + 1 + 1 + 1) 3 1 (.slice (some ⟨bm', 0, none⟩) (m.length + 1) cm') (m.length + 1) (iv (insAt m k v))) (hF : Fr (fun b => mv.ownBlock = some b) w1 w2) (hor : mv.ownBlock = some bm' ∨ w1.heap.size ≤ bm') :
    Full B d (t + 1) ga C K (insAt m k v) q bm' cm' w2 := by
  have hml := h.mlen
  have hlt := h.mown.lt
  rw [hml] at hown
  have hnB : ∀ b, b < B + 1 + 1 + 1 → ¬ mv.ownBlock = some b := fun b hb e => by have := (hlt b e).1; omega
  have hga : ¬ mv.ownBlock = some ga := fun e => by
    obtain ⟨cura, hga⟩ := own_block h.st.row
    rcases h.mown.2 with ⟨e2, _⟩ | ⟨g, cap, cur, e2, _, hg, _⟩
    · rw [e2] at e; simp [Value.ownBlock] at e
    · rw [e2] at e; simp [Value.ownBlock] at e
      rw [e, hga] at hg; simp at hg
  refine ⟨hown, by rw [insAt_length _ _ _ hk, hml], h.st.kept hF (hnB _ (by omega)) hga (fun k hk e => h.ap k hk _ e rfl), h.inv k hk hlo hhi, h.tick.kept hF (hnB _ (by omega)) (hnB _ (by omega)), h.q0, by have := h.q1; omega, h.klen, h.kpos, fun c hc => ?_, Nat.le_trans h.size hF.size⟩
  rcases hor with e | e
  · exact h.ap c hc _ e
  · have := h.st.lt hc; omega

theorem full_check {B : Nat} {d : Bool} {t ga C bm cm : Nat} {K : List Chk} {m : List Int} {q : Int} {w : World} (h : Full B d t ga C K m q bm cm w) (ht : t ≤ 1024) :
    Calls Yba.prog 15 #[.slice (some ⟨ga, 0, none⟩) K.length C, .slice (some ⟨bm, 0, none⟩) t cm] w fun e w' => e = .returned (.bool true) ∧ w = w' := by
  have hX : ∀ s, ((K.map (·.2.2)).getD s []) = (K.getD s default).2.2 := getD_map2 K
  have key : ∀ s, s < K.length → K[s]? = some (K.getD s default) := fun s hs => by simp [hs]
  have mem : ∀ s, s < K.length → K.getD s default ∈ K := fun s hs => List.mem_of_getElem? (key s hs)
  have memX : ∀ s, s < K.length → (K.getD s default).2.2 ∈ K.map (·.2.2) := fun s hs => List.mem_map.2 ⟨_, mem s hs, rfl⟩
  obtain ⟨cur, hbm, _, htk⟩ := own_row h.mown
  refine (check15_any ga K.length C bm t cm (fun s => (K.getD s default).1) (fun s => (K.getD s default).2.2.length) (fun s => (K.getD s default).2.1)
    (fun s => ((K.map (·.2.2)).take s).flatten.length) (fun s j => (K.getD s default).2.2.getD j 0) w (by have := h.klen; omega) (by omega) (by simp) (fun s hs => ?_) ?_ (fun s hs => ?_) (fun s hs => ?_) (fun s hs => h.st.cell (key s hs)) (fun s hs j hj => h.st.elem (mem s hs) j hj) (fun s hs j hj => ?_)).mono fun e w' h => ⟨h.1, h.2.symm⟩
  · rw [take_flat_succ _ _ (by simpa using hs), hX]
  · rw [List.take_of_length_le (by simp), h.inv.flat, h.mlen]
  · have := take_flat_le (K.map (·.2.2)) s
    rw [h.inv.flat, h.mlen] at this
    exact this
  · have h1 := h.inv.len _ (memX s hs)
    refine ⟨h1.1, h1.2, fun hN => ?_⟩
    rcases h.inv.low with e | e
    · simp at e; omega
    · exact e _ (memX s hs)
  · have e := flat_getD (K.map (·.2.2)) s j (by simpa using hs) (by rw [hX]; exact hj)
    rw [h.inv.flat, hX] at e
    have hlt : ((K.map (·.2.2)).take s).flatten.length + j < m.length := by
      have h1 := take_flat_succ (K.map (·.2.2)) s (by simpa using hs)
      have h2 := take_flat_le (K.map (·.2.2)) (s + 1)
      rw [h.inv.flat, h1, hX] at h2
      omega
    refine own_cell hbm htk _ _ ?_
    rw [← e]
    generalize ((K.map (·.2.2)).take s).flatten.length + j = p at hlt
    simp [iv, hlt]

theorem insert_empty (B : Nat) (d : Bool) (v : Int) (w : World) (h : w.heap[B + 1]? = some (.cells #[.slice none 0 0] 30 (0, 0))) (hT : Tick (B + 1 + 1) B d 0 w) (hsz : B + 1 + 1 + 1 ≤ w.heap.size) :
    Calls Yba.prog 13 #[.pointer (some ⟨B + 1, 0, none⟩), .int .i64 v, .func (.func 11) #[] #[.pointer (some ⟨B + 1 + 1, 0, none⟩), .pointer (some ⟨B, 0, none⟩)]] w fun e w1 =>
      e = .returned (.tuple #[]) ∧ ∃ ga C K, Half B d 0 ga C K [] v 0 (.slice none 0 0) w1 ∧ Below B w w1 := by
  refine (insert13_empty (B + 1 + 1 + 1) (B + 1) v (B + 1 + 1) B w h hsz).mono ?_
  rintro e w1 ⟨rfl, ga, C, g, c, hst, hF, hge⟩
  exact ⟨rfl, ga, C, _, half_empty hT hsz hst hF, hF.toBelow (by omega) (fun k hk => by omega)⟩

theorem insert_full {B : Nat} {d : Bool} {t ga C bm cm : Nat} {K : List Chk} {m : List Int} {q : Int} {w : World} (h : Full B d t ga C K m q bm cm w) (ht : t ≤ 1024) (v : Int) :
    Calls Yba.prog 13 #[.pointer (some ⟨B + 1, 0, none⟩), .int .i64 v, .func (.func 11) #[] #[.pointer (some ⟨B + 1 + 1, 0, none⟩), .pointer (some ⟨B, 0, none⟩)]] w fun e w1 =>
      e = .returned (.tuple #[]) ∧ ∃ ga' C' K' q', Half B d t ga' C' K' m v q' (.slice (some ⟨bm, 0, none⟩) t cm) w1 ∧ q < q' ∧ Below B w w1 := by
  have key : ∀ s, s < K.length → K[s]? = some (K.getD s default) := fun s hs => by simp [hs]
  have memX : ∀ k ∈ K, k.2.2 ∈ K.map (·.2.2) := fun k hk => List.mem_map.2 ⟨_, hk, rfl⟩
  have hq := h.q1
  refine (insert13_some (B + 1 + 1 + 1) (B + 1) ga C K v d (B + 1 + 1) B q w h.st h.size (by omega) (by omega) (by omega) h.tick h.q0 (by omega) (by omega) (by omega) (fun k hk => h.inv.len _ (memX k hk)) ?_ h.kpos (by have := h.klen; omega) (fun k hk => srt_getD (h.inv.chunk (memX k hk))) (fun s t hst ht => ?_)).mono ?_
  · rcases h.inv.low with e | e
    · exact .inl (by simpa using e)
    · exact .inr (fun k hk => e _ (memX k hk))
  · have := h.inv.lasts s t hst (by simpa using ht)
    rw [getD_map2, getD_map2] at this
    exact this
  · rintro e w1 ⟨rfl, ga', C', K', q', hst, hX, hT, hq1, hq2, hF, hbl⟩
    refine ⟨rfl, ga', C', K', q', half_some h hst hX hT hq1 hq2 hF hbl, hq1, hF.toBelow (by have := h.size; omega) (fun k hk => ?_)⟩
    rintro (e | e | e | ⟨c, hc, e⟩)
    · omega
    · omega
    · have := own_base h.st.row; omega
    · have := own_base (h.st.chk c hc); omega

theorem put_half {B : Nat} {d : Bool} {t ga C : Nat} {K : List Chk} {m : List Int} {v q : Int} {mv : Value} {w1 : World} (h : Half B d t ga C K m v q mv w1) (ht : t ≤ 1024) :
    Calls Yba.prog 14 #[mv, .int .i64 v, .bool d] w1 fun e w2 => ∃ m' bm' cm', e = .returned (.slice (some ⟨bm', 0, none⟩) (t + 1) cm') ∧ Full B d (t + 1) ga C K m' q bm' cm' w2 ∧ Below B w1 w2 := by
  have hml := h.mlen
  refine (put14_any (B + 1 + 1 + 1) mv m v d w1 (by rw [hml]; exact h.mown) (by omega) h.size).mono ?_
  rintro e w2 ⟨k, bm', cm', rfl, hk, hlo, hhi, hown, hF, hor⟩
  refine ⟨_, bm', cm', by rw [hml], full_put h hk hlo hhi hown hF hor, hF.toBelow (by have := h.size; omega) (fun b hb e => ?_)⟩
  have := (h.mown.lt b e).1; omega
end Go.Proofs.Ybulkbcge
