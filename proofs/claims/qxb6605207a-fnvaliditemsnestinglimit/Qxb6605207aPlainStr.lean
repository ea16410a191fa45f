/-
  Plain functions: the string automaton, over a text given as a function 't' of places and a length. No Go here.
-/
namespace Go.Proofs.Qxb6605207a

/-- A hexadecimal digit. -/
def hexB (x : Int) : Bool := decide ((48 ≤ x ∧ x ≤ 57) ∨ (97 ≤ x ∧ x ≤ 102) ∨ (65 ≤ x ∧ x ≤ 70))
/-- What may follow a backslash but for u. -/
def shortB (x : Int) : Bool := decide (x = 34 ∨ x = 92 ∨ x = 47 ∨ x = 98 ∨ x = 102 ∨ x = 110 ∨ x = 114 ∨ x = 116)

/-- The automaton from state st at p, at most 'f' places on: the place behind the closing quote, whether an escape was read. -/
def smF (t : Nat → Int) (len : Nat) : Nat → Nat → Bool → Nat → Option (Nat × Bool)
  | 0, _, _, _ => none
  | f + 1, st, esc, p =>
    if p < len then
      if st = 0 then
        if t p = 34 then some (p + 1, esc) else if t p < 32 then none else if t p = 92 then smF t len f 1 true (p + 1) else smF t len f 0 esc (p + 1)
      else if st = 1 then
        if t p = 117 then smF t len f 2 esc (p + 1) else if shortB (t p) = true then smF t len f 0 esc (p + 1) else none
      else
        if hexB (t p) = false then none else if st = 5 then smF t len f 0 esc (p + 1) else smF t len f (st + 1) esc (p + 1)
    else none

def sm (t : Nat → Int) (len st : Nat) (esc : Bool) (p : Nat) : Option (Nat × Bool) := smF t len (len - p) st esc p

theorem sm_end (t : Nat → Int) (len st : Nat) (esc : Bool) (p : Nat) (h : len ≤ p) : sm t len st esc p = none := by
  unfold sm
  rw [show len - p = 0 from by omega, smF]

theorem sm_step (t : Nat → Int) (len st : Nat) (esc : Bool) (p : Nat) (h : p < len) : sm t len st esc p =
      if st = 0 then
        if t p = 34 then some (p + 1, esc) else if t p < 32 then none else if t p = 92 then sm t len 1 true (p + 1) else sm t len 0 esc (p + 1)
      else if st = 1 then
        if t p = 117 then sm t len 2 esc (p + 1) else if shortB (t p) = true then sm t len 0 esc (p + 1) else none
      else
        if hexB (t p) = false then none else if st = 5 then sm t len 0 esc (p + 1) else sm t len (st + 1) esc (p + 1) := by
  unfold sm
  rw [show len - p = (len - (p + 1)) + 1 from by omega, smF, if_pos h]

/-- State 0. -/
theorem sm0_quote {t : Nat → Int} {len : Nat} {esc : Bool} {p : Nat} (h : p < len) (h1 : t p = 34) : sm t len 0 esc p = some (p + 1, esc) := by
  rw [sm_step _ _ _ _ _ h]; simp [h1]
theorem sm0_low {t : Nat → Int} {len : Nat} {esc : Bool} {p : Nat} (h : p < len) (h1 : t p < 32) : sm t len 0 esc p = none := by
  rw [sm_step _ _ _ _ _ h]; simp [h1, show t p ≠ 34 from by omega]
theorem sm0_back {t : Nat → Int} {len : Nat} {esc : Bool} {p : Nat} (h : p < len) (h1 : t p = 92) : sm t len 0 esc p = sm t len 1 true (p + 1) := by
  rw [sm_step _ _ _ _ _ h]; simp [h1]
theorem sm0_plain {t : Nat → Int} {len : Nat} {esc : Bool} {p : Nat} (h : p < len) (h1 : t p ≠ 34) (h2 : 32 ≤ t p) (h3 : t p ≠ 92) : sm t len 0 esc p = sm t len 0 esc (p + 1) := by
  rw [sm_step _ _ _ _ _ h]; simp [h1, h3, show ¬ t p < 32 from by omega]
/-- State 1. -/
theorem sm1_u {t : Nat → Int} {len : Nat} {esc : Bool} {p : Nat} (h : p < len) (h1 : t p = 117) : sm t len 1 esc p = sm t len 2 esc (p + 1) := by
  rw [sm_step _ _ _ _ _ h]; simp [h1]
theorem sm1_short {t : Nat → Int} {len : Nat} {esc : Bool} {p : Nat} (h : p < len) (h1 : t p ≠ 117) (h2 : shortB (t p) = true) : sm t len 1 esc p = sm t len 0 esc (p + 1) := by
  rw [sm_step _ _ _ _ _ h]; simp [h1, h2]
theorem sm1_bad {t : Nat → Int} {len : Nat} {esc : Bool} {p : Nat} (h : p < len) (h1 : t p ≠ 117) (h2 : shortB (t p) = false) : sm t len 1 esc p = none := by
  rw [sm_step _ _ _ _ _ h]; simp [h1, h2]
/-- States 2 to 5. -/
theorem smh_bad {t : Nat → Int} {len st : Nat} {esc : Bool} {p : Nat} (h : p < len) (hs : 2 ≤ st) (h1 : hexB (t p) = false) : sm t len st esc p = none := by
  rw [sm_step _ _ _ _ _ h]; simp [h1, show st ≠ 0 from by omega, show st ≠ 1 from by omega]
theorem smh_next {t : Nat → Int} {len st : Nat} {esc : Bool} {p : Nat} (h : p < len) (hs : 2 ≤ st) (hs5 : st ≠ 5) (h1 : hexB (t p) = true) : sm t len st esc p = sm t len (st + 1) esc (p + 1) := by
  rw [sm_step _ _ _ _ _ h]; simp [h1, show st ≠ 0 from by omega, show st ≠ 1 from by omega, hs5]
theorem smh_last {t : Nat → Int} {len : Nat} {esc : Bool} {p : Nat} (h : p < len) (h1 : hexB (t p) = true) : sm t len 5 esc p = sm t len 0 esc (p + 1) := by
  rw [sm_step _ _ _ _ _ h]; simp [h1]

/-- The first k of four digits read. -/
theorem sm_hex (t : Nat → Int) (len : Nat) (esc : Bool) (q : Nat) : ∀ k, k ≤ 3 → q + k ≤ len → (∀ j, j < k → hexB (t (q + j)) = true) → sm t len 2 esc q = sm t len (2 + k) esc (q + k) := by
  intro k
  induction k with
  | zero => intro _ _ _; rfl
  | succ k ih =>
    intro h1 h2 h3
    rw [ih (by omega) (by omega) (fun j hj => h3 j (by omega)), smh_next (by omega) (by omega) (by omega) (h3 k (by omega))]
    rfl

theorem sm_hex_bad (t : Nat → Int) (len : Nat) (esc : Bool) (q k : Nat) (hk : k ≤ 3) (hl : q + k < len) (h3 : ∀ j, j < k → hexB (t (q + j)) = true) (hb : hexB (t (q + k)) = false) : sm t len 2 esc q = none := by
  rw [sm_hex t len esc q k hk (by omega) h3, smh_bad hl (by omega) hb]

theorem sm_hex_all (t : Nat → Int) (len : Nat) (esc : Bool) (q : Nat) (hl : q + 3 < len) (h3 : ∀ j, j < 4 → hexB (t (q + j)) = true) : sm t len 2 esc q = sm t len 0 esc (q + 4) := by
  rw [sm_hex t len esc q 3 (by omega) (by omega) (fun j hj => h3 j (by omega)), smh_last hl (h3 3 (by omega))]

/-- Too few places left for four digits. -/
theorem sm_hex_short (t : Nat → Int) (len : Nat) (esc : Bool) (q : Nat) (hl : len ≤ q + 3) : sm t len 2 esc q = none := by
  have key : ∀ n st p, 2 ≤ st → st ≤ 5 → len ≤ p + (5 - st) → len - p ≤ n → sm t len st esc p = none := by
    intro n
    induction n with
    | zero => intro st p _ _ _ h; exact sm_end _ _ _ _ _ (by omega)
    | succ n ih =>
      intro st p h1 h2 h3 h4
      by_cases hp : p < len
      · by_cases hb : hexB (t p) = false
        · exact smh_bad hp h1 hb
        · rw [smh_next hp h1 (by omega) (by simpa using hb)]
          exact ih _ _ (by omega) (by omega) (by omega) (by omega)
      · exact sm_end _ _ _ _ _ (by omega)
  exact key _ 2 q (by omega) (by omega) (by omega) (Nat.le_refl _)

/-- Where the automaton ends. -/
theorem sm_le (t : Nat → Int) (len : Nat) : ∀ n st esc p r, len - p ≤ n → sm t len st esc p = some r → p < r.1 ∧ r.1 ≤ len := by
  intro n
  induction n with
  | zero => intro st esc p r h1 h2; rw [sm_end _ _ _ _ _ (by omega)] at h2; simp at h2
  | succ n ih =>
    intro st esc p r h1 h2
    by_cases hp : p < len
    · rw [sm_step _ _ _ _ _ hp] at h2
      have go : ∀ st' esc', sm t len st' esc' (p + 1) = some r → p < r.1 ∧ r.1 ≤ len := fun st' esc' h => by
        have := ih st' esc' (p + 1) r (by omega) h; omega
      split at h2
      · split at h2
        · simp only [Option.some.injEq] at h2; subst h2; simp; omega
        · split at h2
          · simp at h2
          · split at h2
            · exact go _ _ h2
            · exact go _ _ h2
      · split at h2
        · split at h2
          · exact go _ _ h2
          · split at h2
            · exact go _ _ h2
            · simp at h2
        · split at h2
          · simp at h2
          · split at h2
            · exact go _ _ h2
            · exact go _ _ h2
    · rw [sm_end _ _ _ _ _ (by omega)] at h2; simp at h2

end Go.Proofs.Qxb6605207a
