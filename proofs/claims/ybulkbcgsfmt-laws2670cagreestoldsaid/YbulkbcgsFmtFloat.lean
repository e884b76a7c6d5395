/- PLAIN FACTS ON THE MODEL's float64 (Ieee.double): which words stand for numbers, how great they may be, when an operation has an answer. Of no program. -/
import Derived.Laws.FloatArith
namespace Go.Proofs.YbulkbcgsFmt
open Ieee
set_option linter.unusedSimpArgs false
set_option linter.unusedVariables false

theorem d_binade : double.binade = 2 ^ 52 := rfl
theorem d_inf : double.infRung = 2047 * 2 ^ 52 := rfl
theorem d_sign : double.signWeight = 2 ^ 63 := rfl
theorem d_least : double.leastPlace = -1074 := rfl
theorem d_frac : double.fractionBits = 52 := rfl

theorem read_word (neg : Bool) (r : Nat) (h : r < 2 ^ 63) : double.read (double.word neg r) =
    if r < 2 ^ 52 then .number neg r (-1074) else if r < 2047 * 2 ^ 52 then .number neg (2 ^ 52 + r % 2 ^ 52) (-1074 + (r / 2 ^ 52 - 1 : Nat))
    else if r = 2047 * 2 ^ 52 then .infinity neg else .nan neg (r - 2047 * 2 ^ 52) := by
  have e1 : double.word neg r % double.signWeight = r := by
    rw [d_sign]; unfold Format.word; rw [d_sign]
    cases neg <;> simp only [if_true, if_false, Bool.false_eq_true] <;> omega
  have e2 : (double.word neg r / double.signWeight % 2 == 1) = neg := by
    rw [d_sign]; unfold Format.word; rw [d_sign]
    cases neg <;> simp only [if_true, if_false, Bool.false_eq_true]
    · have : r / 2 ^ 63 % 2 = 0 := by omega
      rw [this]; rfl
    · have : (2 ^ 63 + r) / 2 ^ 63 % 2 = 1 := by omega
      rw [this]; rfl
  unfold Format.read
  simp only [e1, e2, d_binade, d_inf, d_least]

/-- a number whose leading digit stands at place k or lower (or a zero) -/
def Fin (d : Datum) (k : Int) : Prop := ∃ s m p, d = .number s m p ∧ (m = 0 ∨ p + (m.log2 : Int) ≤ k)

theorem Fin.mono {d : Datum} {k l : Int} (h : Fin d k) (hl : k ≤ l) : Fin d l := by
  obtain ⟨s, m, p, rfl, h⟩ := h
  exact ⟨s, m, p, rfl, h.elim .inl (fun h => .inr (by omega))⟩

theorem lt_two_pow_log (m : Nat) : m < 2 ^ (m.log2 + 1) := by
  by_cases h : m = 0
  · subst h; simp
  · exact (Nat.log2_lt h).1 (Nat.lt_succ_self _)
theorem log_le_of_lt {m k : Nat} (h0 : m ≠ 0) (h : m < 2 ^ (k + 1)) : m.log2 ≤ k := Nat.lt_succ_iff.1 ((Nat.log2_lt h0).2 h)
theorem pow_log_le {m : Nat} (h0 : m ≠ 0) : 2 ^ m.log2 ≤ m := Nat.log2_self_le h0

theorem kept_le (neg : Bool) (mag : Nat) (place last : Int) (h0 : mag ≠ 0) (hl : place + mag.log2 - 52 ≤ last) :
    Toward.even.cut neg (mag <<< (place - last).toNat) (last - place).toNat ≤ 2 ^ 53 := by
  have hm := lt_two_pow_log mag
  have key : ∀ gap n : Nat, n / gap < 2 ^ 53 → ∀ b : Bool, n / gap + b.toNat ≤ 2 ^ 53 := fun gap n h b => by
    have : b.toNat ≤ 1 := by cases b <;> decide
    omega
  unfold Toward.cut
  dsimp only
  apply key
  rcases Int.lt_or_le last place with h | h
  · -- digits are added
    have e : (last - place).toNat = 0 := by omega
    rw [e, Nat.zero_min]
    simp only [Nat.shiftLeft_eq, Nat.pow_zero, Nat.mul_one, Nat.div_one]
    obtain ⟨s, hs⟩ : ∃ s : Nat, (place - last).toNat = s := ⟨_, rfl⟩
    rw [hs]
    have hs2 : mag.log2 + 1 + s ≤ 53 := by omega
    calc mag * 2 ^ s < 2 ^ (mag.log2 + 1) * 2 ^ s := Nat.mul_lt_mul_of_pos_right hm (Nat.two_pow_pos _)
      _ = 2 ^ (mag.log2 + 1 + s) := by rw [← Nat.pow_add]
      _ ≤ 2 ^ 53 := Nat.pow_le_pow_right (by decide) hs2
  · have e : (place - last).toNat = 0 := by omega
    rw [e]
    simp only [Nat.shiftLeft_eq, Nat.pow_zero, Nat.mul_one, Nat.one_mul]
    obtain ⟨dr, hd⟩ : ∃ dr : Nat, (last - place).toNat = dr := ⟨_, rfl⟩
    rw [hd]
    have hdr : mag.log2 ≤ 52 + dr := by omega
    rcases Nat.le_total dr (mag.log2 + 2) with h2 | h2
    · rw [Nat.min_eq_left h2]
      rw [Nat.div_lt_iff_lt_mul (Nat.two_pow_pos _), ← Nat.pow_add]
      exact Nat.lt_of_lt_of_le hm (Nat.pow_le_pow_right (by decide) (by omega))
    · rw [Nat.min_eq_right h2]
      have : mag / 2 ^ (mag.log2 + 2) = 0 := Nat.div_eq_of_lt (Nat.lt_of_lt_of_le hm (Nat.pow_le_pow_right (by decide) (by omega)))
      rw [this]; decide

theorem nearest_fin (neg : Bool) (mag : Nat) (place k : Int) (hX : mag = 0 ∨ place + mag.log2 ≤ k) (hk1 : -1022 ≤ k) (hk2 : k ≤ 1000) : Fin (double.read (double.nearest neg mag place)) (k + 1) := by
  unfold Format.nearest
  by_cases h0 : mag = 0
  · rw [if_pos h0, read_word _ _ (by decide)]
    exact ⟨neg, 0, -1074, rfl, .inl rfl⟩
  · rw [if_neg h0]
    have hX' : place + mag.log2 ≤ k := hX.resolve_left h0
    dsimp only
    rw [d_frac, d_least, d_inf, d_binade]
    obtain ⟨last, hlast⟩ : ∃ last : Int, last = max (place + (mag.log2 : Int) - ((52 : Nat) : Int)) (-1074) := ⟨_, rfl⟩
    rw [← hlast]
    have hkept := kept_le neg mag place last h0 (by omega)
    obtain ⟨kept, hke⟩ : ∃ kept, kept = Toward.even.cut neg (mag <<< (place - last).toNat) (last - place).toNat := ⟨_, rfl⟩
    rw [← hke] at hkept ⊢
    obtain ⟨L, hL⟩ : ∃ L : Nat, L = (last - -1074).toNat := ⟨_, rfl⟩
    rw [← hL]
    obtain ⟨q, hq⟩ : ∃ q : Nat, (q : Int) = k + 1024 := ⟨(k + 1024).toNat, by omega⟩
    have hLq : L + 2 ≤ q := by omega
    have hq2 : q ≤ 2024 := by omega
    clear hke hL hlast hX hX'
    obtain ⟨R, hR⟩ : ∃ R, R = min (L * 2 ^ 52 + kept) (2047 * 2 ^ 52) := ⟨_, rfl⟩
    rw [← hR]
    have hRq : R ≤ q * 2 ^ 52 := by
      have h1 : R ≤ L * 2 ^ 52 + kept := by rw [hR]; exact Nat.min_le_left _ _
      have h2 : (L + 2) * 2 ^ 52 ≤ q * 2 ^ 52 := Nat.mul_le_mul_right _ hLq
      have h3 : (L + 2) * 2 ^ 52 = L * 2 ^ 52 + 2 ^ 53 := by rw [Nat.add_mul]
      rw [h3] at h2
      exact Nat.le_trans (Nat.le_trans h1 (Nat.add_le_add_left hkept _)) h2
    have hR24 : R ≤ 2024 * 2 ^ 52 := Nat.le_trans hRq (Nat.mul_le_mul_right _ hq2)
    have hR63 : R < 2 ^ 63 := Nat.lt_of_le_of_lt hR24 (by decide)
    have hRi : R < 2047 * 2 ^ 52 := Nat.lt_of_le_of_lt hR24 (by decide)
    have hdq : R / 2 ^ 52 ≤ q := Nat.div_le_of_le_mul (by rw [Nat.mul_comm]; exact hRq)
    clear hRq hR24 hR hkept hLq
    rw [read_word _ _ hR63]
    by_cases h1 : R < 2 ^ 52
    · rw [if_pos h1]
      refine ⟨neg, R, -1074, rfl, ?_⟩
      by_cases hR0 : R = 0
      · exact .inl hR0
      · have := log_le_of_lt (k := 51) hR0 h1
        exact .inr (by omega)
    · rw [if_neg h1, if_pos hRi]
      refine ⟨neg, _, _, rfl, .inr ?_⟩
      have hlog : (2 ^ 52 + R % 2 ^ 52).log2 ≤ 52 := log_le_of_lt (by omega) (by have := Nat.mod_lt R (Nat.two_pow_pos 52); omega)
      generalize R / 2 ^ 52 = e at hdq ⊢
      omega

theorem nn_nearest (neg : Bool) (mag : Nat) (place : Int) : (double.read (double.nearest neg mag place)).isNaN = false := by
  have key : ∀ r, r ≤ 2047 * 2 ^ 52 → (double.read (double.word neg r)).isNaN = false := fun r hr => by
    rw [read_word _ _ (by omega)]
    by_cases h1 : r < 2 ^ 52
    · rw [if_pos h1]; rfl
    · rw [if_neg h1]
      by_cases h2 : r < 2047 * 2 ^ 52
      · rw [if_pos h2]; rfl
      · rw [if_neg h2, if_pos (by omega)]; rfl
  unfold Format.nearest
  split
  · exact key 0 (by decide)
  · exact key _ (Nat.min_le_right ..)

theorem nn_write (d : Datum) (h : d.isNaN = false) : (double.read (double.write d)).isNaN = false := by
  cases d with
  | number s m p => exact nn_nearest s m p
  | infinity s =>
    show (double.read (double.word s double.infRung)).isNaN = false
    rw [d_inf, read_word _ _ (by decide), if_neg (by decide), if_neg (by decide), if_pos rfl]
    rfl
  | nan s t => cases h

theorem order_self (x : Nat) (h : (double.read x).isNaN = false) : double.order x x = some .eq := by
  unfold Format.order
  cases hx : double.read x with
  | number s m p => simp [Datum.order, compare, compareOfLessAndEq]
  | infinity s => simp [Datum.order, compare, compareOfLessAndEq]
  | nan s t => rw [hx] at h; cases h

theorem order_swap (x y : Nat) : double.order y x = (double.order x y).map Ordering.swap := by
  have ci : ∀ a b : Int, compare b a = (compare a b).swap := fun a b => by
    simp only [compare, compareOfLessAndEq]
    by_cases h1 : a < b
    · simp [h1, show ¬ b < a by omega, show ¬ b = a by omega]
    · by_cases h2 : a = b
      · simp [h2]
      · simp [h1, h2, show b < a by omega]
  have cn : ∀ a b : Nat, compare b a = (compare a b).swap := fun a b => by
    simp only [compare, compareOfLessAndEq]
    by_cases h1 : a < b
    · simp [h1, show ¬ b < a by omega, show ¬ b = a by omega]
    · by_cases h2 : a = b
      · simp [h2]
      · simp [h1, h2, show b < a by omega]
  unfold Format.order
  cases hx : double.read x <;> cases hy : double.read y <;> simp only [Datum.order, Option.map_some, Option.map_none]
  · rename_i s m i t n j
    rw [Int.min_comm j i, ← ci]
  · rename_i s m i t; cases t <;> rfl
  · rename_i s t n j; cases s <;> rfl
  · rename_i s t; rw [← cn]

def W0 : Nat := 0
def W100 : Nat := 4636737291354636288
def WMax : Nat := 9218868437227405311
theorem read_W0 : double.read 0 = .number false 0 (-1074) := by decide
theorem read_W100 : double.read 4636737291354636288 = .number false 7036874417766400 (-46) := by decide
theorem read_WMax : double.read 9218868437227405311 = .number false 9007199254740991 971 := by decide
theorem read_6e10 : double.read 4768169126130614272 = .number false 7864320000000000 (-17) := by decide

/-- at or above 0 and not above the greatest finite float: a number -/
theorem num_of_fin (x : Nat) (h1 : double.order x 0 = some .gt ∨ double.order x 0 = some .eq) (h2 : double.order x 9218868437227405311 ≠ some .gt) : ∃ s m p, double.read x = .number s m p := by
  unfold Format.order at h1 h2
  rw [read_W0] at h1
  rw [read_WMax] at h2
  cases hx : double.read x with
  | number s m p => exact ⟨s, m, p, rfl⟩
  | infinity s =>
    rw [hx] at h1 h2
    cases s
    · exact absurd rfl h2
    · rcases h1 with h | h <;> cases h
  | nan s t => rw [hx] at h1; rcases h1 with h | h <;> cases h

/-- above 0 and not above 100: a number below 2^7 -/
theorem fin_of_percent (x : Nat) (h1 : double.order x 0 = some .gt) (h2 : double.order x 4636737291354636288 ≠ some .gt) : Fin (double.read x) 7 := by
  unfold Format.order at h1 h2
  rw [read_W0] at h1
  rw [read_W100] at h2
  cases hx : double.read x with
  | number s m p =>
    refine ⟨s, m, p, rfl, ?_⟩
    rw [hx] at h1 h2
    simp only [Datum.order, Option.some.injEq] at h1 h2
    by_cases h0 : m = 0
    · exact .inl h0
    · refine .inr ?_
      have hs : s = false := by
        cases s with
        | false => rfl
        | true =>
          exfalso
          rw [Int.compare_eq_gt] at h1
          simp only [signed, Nat.shiftLeft_eq, if_true, if_false, Nat.zero_mul, Bool.false_eq_true] at h1
          have : (0 : Int) ≤ ((m * 2 ^ (p - min p (-1074)).toNat : Nat) : Int) := Int.natCast_nonneg _
          omega
      subst hs
      have hle : signed false m (p - min p (-46)).toNat ≤ signed false 7036874417766400 (-46 - min p (-46)).toNat := by
        rcases Int.lt_or_le (signed false 7036874417766400 (-46 - min p (-46)).toNat) (signed false m (p - min p (-46)).toNat) with h | h
        · exact absurd (congrArg some (Int.compare_eq_gt.2 h)) h2
        · exact h
      simp only [signed, Nat.shiftLeft_eq, if_false, Bool.false_eq_true] at hle
      have hle' : m * 2 ^ (p - min p (-46)).toNat ≤ 7036874417766400 * 2 ^ (-46 - min p (-46)).toNat := by omega
      have h3 : 2 ^ (m.log2 + (p - min p (-46)).toNat) < 2 ^ (53 + (-46 - min p (-46)).toNat) := by
        rw [Nat.pow_add, Nat.pow_add]
        calc 2 ^ m.log2 * 2 ^ (p - min p (-46)).toNat ≤ m * 2 ^ (p - min p (-46)).toNat := Nat.mul_le_mul_right _ (pow_log_le h0)
          _ ≤ 7036874417766400 * 2 ^ (-46 - min p (-46)).toNat := hle'
          _ < 2 ^ 53 * 2 ^ (-46 - min p (-46)).toNat := Nat.mul_lt_mul_of_pos_right (by decide) (Nat.two_pow_pos _)
      have h4 := (Nat.pow_lt_pow_iff_right (by decide : 1 < 2)).1 h3
      omega
  | infinity s =>
    rw [hx] at h1 h2
    cases s
    · exact absurd rfl h2
    · cases h1
  | nan s t => rw [hx] at h1; cases h1

theorem fin_ofNat (n : Nat) (k : Nat) (h : n < 2 ^ (k + 1)) (hk : k ≤ 900) (neg : Bool) : Fin (double.read (double.nearest neg n 0)) (k + 1) := by
  refine nearest_fin neg n 0 k ?_ (by omega) (by omega)
  by_cases h0 : n = 0
  · exact .inl h0
  · have := log_le_of_lt h0 h
    exact .inr (by omega)

theorem fin_mul {x y : Nat} {a b k : Int} (hx : Fin (double.read x) a) (hy : Fin (double.read y) b) (hk : a + b + 1 ≤ k) (hk1 : -1022 ≤ k) (hk2 : k ≤ 1000) : ∃ r, double.mul x y = some r ∧ Fin (double.read r) (k + 1) := by
  obtain ⟨s, m, i, ex, hm⟩ := hx
  obtain ⟨t, n, j, ey, hn⟩ := hy
  unfold Format.mul
  rw [ex, ey]
  refine ⟨_, rfl, nearest_fin _ _ _ _ ?_ hk1 hk2⟩
  by_cases h0 : m = 0
  · exact .inl (by rw [h0, Nat.zero_mul])
  · by_cases h1 : n = 0
    · exact .inl (by rw [h1, Nat.mul_zero])
    · refine .inr ?_
      have hl : (m * n).log2 ≤ m.log2 + n.log2 + 1 := by
        refine log_le_of_lt (Nat.mul_ne_zero h0 h1) ?_
        calc m * n < 2 ^ (m.log2 + 1) * 2 ^ (n.log2 + 1) := Nat.mul_lt_mul'' (lt_two_pow_log m) (lt_two_pow_log n)
          _ = 2 ^ (m.log2 + n.log2 + 1 + 1) := by rw [← Nat.pow_add]; congr 1; omega
      have hm' := hm.resolve_left h0
      have hn' := hn.resolve_left h1
      omega

theorem nn_mul {x y : Nat} {a b : Int} (hx : Fin (double.read x) a) (hy : Fin (double.read y) b) : ∃ r, double.mul x y = some r ∧ (double.read r).isNaN = false := by
  obtain ⟨s, m, i, ex, hm⟩ := hx
  obtain ⟨t, n, j, ey, hn⟩ := hy
  unfold Format.mul
  rw [ex, ey]
  exact ⟨_, rfl, nn_nearest _ _ _⟩

theorem fin_div {x y M : Nat} {a k j : Int} (hx : Fin (double.read x) a) (hy : double.read y = .number false M j) (hM : M ≠ 0) (hk : a - j ≤ k) (hk1 : -1022 ≤ k) (hk2 : k ≤ 1000) : ∃ r, double.div x y = some r ∧ Fin (double.read r) (k + 1) := by
  obtain ⟨s, m, i, ex, hm⟩ := hx
  unfold Format.div
  rw [ex, hy]
  simp only [Datum.quotient, hM, if_false]
  refine ⟨_, rfl, nearest_fin _ _ _ _ ?_ hk1 hk2⟩
  by_cases h0 : m = 0
  · subst h0; exact .inl (by simp)
  · generalize hmore : double.fractionBits + 2 + M.log2 - m.log2 = more
    by_cases hz : 2 * (m <<< more / M) + (m <<< more % M != 0).toNat = 0
    · exact .inl hz
    · refine .inr ?_
      have hb : 2 * (m <<< more / M) + (m <<< more % M != 0).toNat < 2 ^ (m.log2 + more + 1 + 1) := by
        have h1 : m <<< more / M ≤ m <<< more := Nat.div_le_self _ _
        have h2 : (m <<< more % M != 0).toNat ≤ 1 := by cases (m <<< more % M != 0) <;> decide
        have h3 : m <<< more < 2 ^ (m.log2 + 1 + more) := by
          rw [Nat.shiftLeft_eq, Nat.pow_add]
          exact Nat.mul_lt_mul_of_pos_right (lt_two_pow_log m) (Nat.two_pow_pos _)
        have h4 : 2 ^ (m.log2 + more + 1 + 1) = 2 * 2 ^ (m.log2 + 1 + more) := by rw [Nat.pow_succ, Nat.mul_comm]; congr 2; omega
        rw [h4]
        omega
      have hl := log_le_of_lt hz hb
      have hm' := hm.resolve_left h0
      omega

theorem nn_div {x y M : Nat} {j : Int} (hx : (double.read x).isNaN = false) (hy : double.read y = .number false M j) (hM : M ≠ 0) : ∃ r, double.div x y = some r ∧ (double.read r).isNaN = false := by
  unfold Format.div
  rw [hy]
  cases ex : double.read x with
  | number s m i =>
    simp only [Datum.quotient, hM, if_false]
    exact ⟨_, rfl, nn_nearest _ _ _⟩
  | infinity s =>
    simp only [Datum.quotient]
    exact ⟨_, rfl, nn_write _ rfl⟩
  | nan s t => rw [ex] at hx; cases hx

theorem signed_natAbs (s : Bool) (m u : Nat) : (signed s m u).natAbs = m * 2 ^ u := by
  unfold signed
  rw [Nat.shiftLeft_eq]
  cases s <;> simp [Int.natAbs_mul, Int.natAbs_pow]

theorem fin_add {x y : Nat} {a k : Int} (hx : Fin (double.read x) a) (hy : Fin (double.read y) a) (hk : a + 2 ≤ k) (hk1 : -1022 ≤ k) (hk2 : k ≤ 1000) : ∃ r, double.add x y = some r ∧ Fin (double.read r) (k + 1) := by
  obtain ⟨s, m, i, ex, hm⟩ := hx
  obtain ⟨t, n, j, ey, hn⟩ := hy
  unfold Format.add
  rw [ex, ey]
  refine ⟨_, rfl, nearest_fin _ _ _ _ ?_ hk1 hk2⟩
  generalize hT : signed s m (i - min i j).toNat + signed t n (j - min i j).toNat = T
  by_cases h0 : T.natAbs = 0
  · exact .inl h0
  · refine .inr ?_
    have h1 := signed_natAbs s m (i - min i j).toNat
    have h2 := signed_natAbs t n (j - min i j).toNat
    have hb : ∀ (m : Nat) (i : Int), (m = 0 ∨ i + (m.log2 : Int) ≤ a) → min i j ≤ i → ∀ base : Int, base ≤ i → base ≤ a + 1 → m * 2 ^ (i - base).toNat ≤ 2 ^ (a + 1 - base).toNat := fun m i hm _ base hbi hba => by
      rcases hm with rfl | hm
      · simp
      · have : m * 2 ^ (i - base).toNat ≤ 2 ^ (m.log2 + 1) * 2 ^ (i - base).toNat := Nat.mul_le_mul_right _ (Nat.le_of_lt (lt_two_pow_log m))
        refine Nat.le_trans this ?_
        rw [← Nat.pow_add]
        exact Nat.pow_le_pow_right (by decide) (by omega)
    have hT2 : T.natAbs ≤ m * 2 ^ (i - min i j).toNat + n * 2 ^ (j - min i j).toNat := by rw [← h1, ← h2]; omega
    have hbase : min i j ≤ a + 1 := by
      rcases hm with hm0 | hm
      · rcases hn with hn0 | hn
        · exfalso; subst hm0; subst hn0; simp at hT2; omega
        · omega
      · omega
    have b1 := hb m i hm (by omega) (min i j) (by omega) hbase
    have b2 := hb n j hn (by omega) (min i j) (by omega) hbase
    have h3 : T.natAbs < 2 ^ ((a + 1 - min i j).toNat + 1 + 1) := by
      have h4 : 2 ^ ((a + 1 - min i j).toNat + 1 + 1) = 4 * 2 ^ (a + 1 - min i j).toNat := by rw [Nat.pow_succ, Nat.pow_succ]; omega
      have := Nat.two_pow_pos (a + 1 - min i j).toNat
      omega
    have hl := log_le_of_lt h0 h3
    omega

theorem add_some {x y : Nat} (hx : ∃ s m p, double.read x = .number s m p) (hy : ∃ s m p, double.read y = .number s m p) : ∃ r, double.add x y = some r := by
  obtain ⟨s, m, i, ex⟩ := hx
  obtain ⟨t, n, j, ey⟩ := hy
  unfold Format.add
  rw [ex, ey]
  exact ⟨_, rfl⟩
end Go.Proofs.YbulkbcgsFmt
