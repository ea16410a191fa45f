/-
  Plain functions: what validNumber's parts compute, over a text given as a function 't' of places and a length. No Go here.
-/
namespace Go.Proofs.Qxb6605207a

/-- The place after the digits from i, looking at most 'f' places. -/
def dgF (t : Nat → Int) (len : Nat) : Nat → Nat → Nat
  | 0, i => i
  | f + 1, i => if i < len ∧ 48 ≤ t i ∧ t i ≤ 57 then dgF t len f (i + 1) else i

/-- The place after the digits from i. -/
def dg (t : Nat → Int) (len i : Nat) : Nat := dgF t len (len - i) i

theorem dgF_eq (t : Nat → Int) (len : Nat) : ∀ f i j, i ≤ j → j ≤ i + f → (∀ k, i ≤ k → k < j → k < len ∧ 48 ≤ t k ∧ t k ≤ 57) → ¬ (j < len ∧ 48 ≤ t j ∧ t j ≤ 57) → dgF t len f i = j := by
  intro f
  induction f with
  | zero => intro i j h1 h2 _ _; simp [dgF]; omega
  | succ f ih =>
    intro i j h1 h2 h3 h4
    by_cases e : i = j
    · subst e; rw [dgF, if_neg h4]
    · rw [dgF, if_pos (h3 i (Nat.le_refl _) (by omega))]
      exact ih (i + 1) j (by omega) (by omega) (fun k a b => h3 k (by omega) b) h4

theorem dg_eq (t : Nat → Int) (len i j : Nat) (h1 : i ≤ j) (h3 : ∀ k, i ≤ k → k < j → k < len ∧ 48 ≤ t k ∧ t k ≤ 57) (h4 : ¬ (j < len ∧ 48 ≤ t j ∧ t j ≤ 57)) : dg t len i = j := by
  refine dgF_eq t len _ i j h1 ?_ h3 h4
  by_cases e : i = j
  · omega
  · have := h3 (j - 1) (by omega) (by omega); omega

theorem dg_ge (t : Nat → Int) (len i : Nat) : i ≤ dg t len i := by
  have : ∀ f i, i ≤ dgF t len f i := by
    intro f
    induction f with
    | zero => intro i; simp [dgF]
    | succ f ih => intro i; rw [dgF]; split; (have := ih (i + 1); omega); omega
  exact this _ _

theorem dg_le (t : Nat → Int) (len i : Nat) (h : i ≤ len) : dg t len i ≤ len := by
  have : ∀ f i, i ≤ len → dgF t len f i ≤ len := by
    intro f
    induction f with
    | zero => intro i h; simpa [dgF] using h
    | succ f ih => intro i h; rw [dgF]; split; (exact ih (i + 1) (by omega)); exact h
  exact this _ _ h

/-- Behind a minus sign, or none. -/
def vn0 (t : Nat → Int) (i : Nat) : Nat := if t i = 45 then i + 1 else i
/-- Behind a 0, or the digits that do not begin with 0. -/
def vn1 (t : Nat → Int) (len i : Nat) : Option Nat :=
  if i < len ∧ t i = 48 then some (i + 1) else if i < len ∧ 49 ≤ t i ∧ t i ≤ 57 then some (dg t len i) else none
/-- Behind a point and digits, or neither. -/
def vn2 (t : Nat → Int) (len i : Nat) : Option Nat :=
  if i < len ∧ t i = 46 then (if dg t len (i + 1) = i + 1 then none else some (dg t len (i + 1))) else some i
/-- Behind a sign, or none. -/
def vn3s (t : Nat → Int) (len i : Nat) : Nat := if i < len ∧ (t i = 43 ∨ t i = 45) then i + 1 else i
/-- Behind an exponent, or none. -/
def vn3 (t : Nat → Int) (len i : Nat) : Option Nat :=
  if i < len ∧ (t i = 101 ∨ t i = 69) then (if dg t len (vn3s t len (i + 1)) = vn3s t len (i + 1) then none else some (dg t len (vn3s t len (i + 1)))) else some i
/-- validNumber's whole answer: the place, where there is a number. -/
def vnum (t : Nat → Int) (len i : Nat) : Option Nat :=
  ((vn1 t len (vn0 t i)).bind (vn2 t len)).bind (vn3 t len)

end Go.Proofs.Qxb6605207a
