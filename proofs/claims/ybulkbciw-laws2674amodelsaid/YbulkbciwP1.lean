/- NO Go IN SIGHT: trees of quorum sets at most d deep, their order, and when they hold. -/
import Std
namespace Go.Proofs.Ybulkbciw
set_option linter.unusedVariables false

/-- quorum sets at most d deep: a threshold, the nodes, the inner sets -/
def T : Nat → Type
  | 0 => Empty
  | d + 1 => Nat × List Int × List (T d)

def thr : (d : Nat) → T d → Nat
  | 0, x => nomatch x
  | _ + 1, x => x.1

def cmpT : (d : Nat) → T d → T d → Ordering
  | 0 => fun x _ => nomatch x
  | d + 1 => fun x y => (compare x.1 y.1).then ((List.compareLex compare x.2.1 y.2.1).then (List.compareLex (cmpT d) x.2.2 y.2.2))

theorem trans_comap {α β : Type} {cmp : β → β → Ordering} [h : Std.TransCmp cmp] (f : α → β) : Std.TransCmp (fun x y => cmp (f x) (f y)) :=
  { eq_swap := h.eq_swap, isLE_trans := h.isLE_trans }
theorem trans_then {α : Type} {c1 c2 : α → α → Ordering} (h1 : Std.TransCmp c1) (h2 : Std.TransCmp c2) : Std.TransCmp (fun x y => (c1 x y).then (c2 x y)) :=
  (inferInstance : Std.TransCmp (compareLex c1 c2))

theorem cmpT_trans : (d : Nat) → Std.TransCmp (cmpT d)
  | 0 => { eq_swap := fun {a} => (nomatch a), isLE_trans := fun {a} => (nomatch a) }
  | d + 1 => by
    have h := cmpT_trans d
    have h1 : Std.TransCmp (fun x y : T (d + 1) => compare x.1 y.1) := trans_comap (cmp := fun a b : Nat => compare a b) (fun x : T (d + 1) => x.1)
    have h2 : Std.TransCmp (fun x y : T (d + 1) => List.compareLex compare x.2.1 y.2.1) := trans_comap (cmp := List.compareLex (fun a b : Int => compare a b)) (fun x : T (d + 1) => x.2.1)
    have h3 : Std.TransCmp (fun x y : T (d + 1) => List.compareLex (cmpT d) x.2.2 y.2.2) := trans_comap (cmp := List.compareLex (cmpT d)) (fun x : T (d + 1) => x.2.2)
    exact trans_then h1 (trans_then h2 h3)

/-- as Go's cmp hands it back -/
def cI : Ordering → Int
  | .lt => -1
  | .eq => 0
  | .gt => 1

/-- p: which nodes are there -/
def satT (p : Int → Bool) : (d : Nat) → T d → Bool
  | 0 => fun x => nomatch x
  | d + 1 => fun x => decide (x.1 ≤ x.2.1.countP p + x.2.2.countP (satT p d))

def up : (d : Nat) → T d → T (d + 1)
  | 0 => fun x => nomatch x
  | d + 1 => fun x => (x.1, x.2.1, x.2.2.map (up d))

theorem thr_up : (d : Nat) → (t : T d) → thr (d + 1) (up d t) = thr d t
  | 0, x => nomatch x
  | d + 1, x => rfl
theorem sat_up (p : Int → Bool) : (d : Nat) → (t : T d) → satT p (d + 1) (up d t) = satT p d t
  | 0, x => nomatch x
  | d + 1, x => by
    show decide (x.1 ≤ x.2.1.countP p + (x.2.2.map (up d)).countP (satT p (d + 1))) = decide (x.1 ≤ x.2.1.countP p + x.2.2.countP (satT p d))
    rw [List.countP_map]
    have : (satT p (d + 1) ∘ up d) = satT p d := funext fun t => sat_up p d t
    rw [this]

/-- the lists that canonical gathers, j inner sets having come -/
def Gathers (d : Nat) (u : List Int) (x : List (T d)) (U : List Int) (X : List (T d)) : Prop := ∀ p, U.countP p + X.countP (satT p d) = u.countP p + x.countP (satT p d)

theorem Gathers.nil (d : Nat) (u : List Int) : Gathers d u [] u [] := fun p => rfl
theorem Gathers.inner {d : Nat} {u U : List Int} {x X : List (T d)} (h : Gathers d u x U X) (t c : T d) (hc : ∀ p, satT p d c = satT p d t) : Gathers d u (x ++ [t]) U (X ++ [c]) := by
  intro p
  have := h p
  simp only [List.countP_append, List.countP_cons, List.countP_nil, hc p]
  omega
theorem Gathers.node {d : Nat} {u U : List Int} {x X : List (T d)} (h : Gathers d u x U X) (t : T d) (v : Int) (hc : ∀ p, satT p d t = p v) : Gathers d u (x ++ [t]) (U ++ [v]) X := by
  intro p
  have := h p
  simp only [List.countP_append, List.countP_cons, List.countP_nil, hc p]
  omega
theorem Gathers.perm {d : Nat} {u U U' : List Int} {x X X' : List (T d)} (h : Gathers d u x U X) (h1 : U'.Perm U) (h2 : X'.Perm X) : Gathers d u x U' X' := by
  intro p
  rw [h1.countP_eq, h2.countP_eq]
  exact h p
theorem Gathers.sat {d : Nat} {u U : List Int} {x X : List (T d)} (h : Gathers d u x U X) (a : Nat) (p : Int → Bool) : satT p (d + 1) (a, U, X) = satT p (d + 1) (a, u, x) := by
  show decide (a ≤ U.countP p + X.countP (satT p d)) = decide (a ≤ u.countP p + x.countP (satT p d))
  rw [h p]
/-- one node and threshold 1: it holds where the node is there -/
theorem sat_one (d : Nat) (v : Int) (p : Int → Bool) : satT p (d + 1) (1, [v], []) = p v := by
  show decide (1 ≤ [v].countP p + ([] : List (T d)).countP (satT p d)) = p v
  cases h : p v <;> simp [h]
theorem sat_only (d : Nat) (c : T d) (p : Int → Bool) : satT p (d + 1) (1, [], [c]) = satT p d c := by
  show decide (1 ≤ ([] : List Int).countP p + [c].countP (satT p d)) = _
  cases h : satT p d c <;> simp [h]
end Go.Proofs.Ybulkbciw
