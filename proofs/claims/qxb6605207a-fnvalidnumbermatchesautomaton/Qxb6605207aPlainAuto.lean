/-
  The number automaton, and that it answers as validNumber's plain function does. No Go here.
-/
import Derived.Test.Qxb6605207aPlain
namespace Go.Proofs.Qxb6605207a

def digB (c : Int) : Bool := decide (48 ≤ c ∧ c ≤ 57)

/-- The transition table; -1: stuck. -/
def nstep (st : Nat) (c : Int) : Int :=
  if st = 0 then (if c = 45 then 1 else if c = 48 then 2 else if digB c = true then 3 else -1)
  else if st = 1 then (if c = 48 then 2 else if digB c = true then 3 else -1)
  else if st = 2 then (if c = 46 then 4 else if c = 101 ∨ c = 69 then 6 else -1)
  else if st = 3 then (if digB c = true then 3 else if c = 46 then 4 else if c = 101 ∨ c = 69 then 6 else -1)
  else if st = 4 then (if digB c = true then 5 else -1)
  else if st = 5 then (if digB c = true then 5 else if c = 101 ∨ c = 69 then 6 else -1)
  else if st = 6 then (if c = 43 ∨ c = 45 then 7 else if digB c = true then 8 else -1)
  else (if digB c = true then 8 else -1)

theorem nstep_range (st : Nat) (c : Int) : nstep st c = -1 ∨ ∃ s : Nat, nstep st c = s ∧ s ≤ 8 := by
  have hneg : (-1 : Int) = -1 ∨ ∃ s : Nat, (-1 : Int) = s ∧ s ≤ 8 := .inl rfl
  have hk : ∀ n : Nat, n ≤ 8 → ((n : Nat) : Int) = -1 ∨ ∃ s : Nat, ((n : Nat) : Int) = s ∧ s ≤ 8 := fun n hn => .inr ⟨n, rfl, hn⟩
  unfold nstep
  repeat' split
  all_goals first | exact hneg | exact hk 1 (by omega) | exact hk 2 (by omega) | exact hk 3 (by omega) | exact hk 4 (by omega) | exact hk 5 (by omega) | exact hk 6 (by omega) | exact hk 7 (by omega) | exact hk 8 (by omega)

/-- The accepting states. -/
def nacc (st : Nat) : Bool := decide (st = 2 ∨ st = 3 ∨ st = 5 ∨ st = 8)

def nmF (t : Nat → Int) (len : Nat) : Nat → Nat → Nat → Option Nat
  | 0, st, p => if nacc st = true then some p else none
  | f + 1, st, p => if p < len ∧ nstep st (t p) ≠ -1 then nmF t len f (nstep st (t p)).toNat (p + 1) else if nacc st = true then some p else none

/-- The automaton from state st at p. -/
def nm (t : Nat → Int) (len st p : Nat) : Option Nat := nmF t len (len - p) st p

theorem nm_go {t : Nat → Int} {len st p : Nat} (s : Nat) (h : p < len) (h1 : nstep st (t p) = s) : nm t len st p = nm t len s (p + 1) := by
  unfold nm
  rw [show len - p = (len - (p + 1)) + 1 from by omega, nmF, if_pos ⟨h, by rw [h1]; omega⟩, h1]
  rfl

theorem nm_stop {t : Nat → Int} {len st p : Nat} (h : ¬ (p < len ∧ nstep st (t p) ≠ -1)) : nm t len st p = if nacc st = true then some p else none := by
  unfold nm
  cases hf : len - p with
  | zero => rw [nmF]
  | succ f => rw [nmF, if_neg h]

section
variable {t : Nat → Int} {len : Nat}

theorem dg_stay {k : Nat} (h : ¬ (k < len ∧ 48 ≤ t k ∧ t k ≤ 57)) : dg t len k = k := dg_eq t len k k (Nat.le_refl _) (fun j h1 h2 => by omega) h
theorem dg_next {k : Nat} (h : k < len) (h1 : 48 ≤ t k ∧ t k ≤ 57) : dg t len k = dg t len (k + 1) := by
  unfold dg
  rw [show len - k = (len - (k + 1)) + 1 from by omega, dgF, if_pos ⟨h, h1⟩]
theorem dg_not (k : Nat) : ¬ (dg t len k < len ∧ 48 ≤ t (dg t len k) ∧ t (dg t len k) ≤ 57) := by
  have key : ∀ n k, len - k ≤ n → ¬ (dg t len k < len ∧ 48 ≤ t (dg t len k) ∧ t (dg t len k) ≤ 57) := by
    intro n
    induction n with
    | zero => intro k hk; rw [dg_stay (by omega)]; omega
    | succ n ih =>
      intro k hk
      by_cases h : k < len ∧ 48 ≤ t k ∧ t k ≤ 57
      · rw [dg_next h.1 h.2]; exact ih (k + 1) (by omega)
      · rw [dg_stay h]; exact h
  exact key _ k (Nat.le_refl _)

/-- A state that stays on digits. -/
theorem nm_digits (X : Nat) (hX : ∀ c, digB c = true → nstep X c = X) : ∀ n k, len - k ≤ n → nm t len X k = nm t len X (dg t len k) := by
  intro n
  induction n with
  | zero => intro k hk; rw [dg_stay (by omega)]
  | succ n ih =>
    intro k hk
    by_cases h : k < len ∧ 48 ≤ t k ∧ t k ≤ 57
    · rw [dg_next h.1 h.2, ← ih (k + 1) (by omega)]
      exact nm_go X h.1 (hX _ (by simp [digB, h.2]))
    · rw [dg_stay h]

theorem nm8 (k : Nat) : nm t len 8 k = some (dg t len k) := by
  rw [nm_digits 8 (fun c hc => by simp [nstep, hc]) _ k (Nat.le_refl _)]
  have h := dg_not (t := t) (len := len) k
  rw [nm_stop]
  · rfl
  · intro ⟨h1, h2⟩
    have : digB (t (dg t len k)) = false := by simp [digB]; omega
    simp [nstep, this] at h2

theorem nm7 (k : Nat) : nm t len 7 k = if dg t len k = k then none else some (dg t len k) := by
  by_cases h : k < len ∧ 48 ≤ t k ∧ t k ≤ 57
  · have hn := dg_next h.1 h.2
    have hg := dg_ge t len (k + 1)
    rw [if_neg (by omega), nm_go 8 h.1 (by simp [nstep, digB, h.2]), nm8, hn]
  · rw [dg_stay h, if_pos rfl, nm_stop]
    · rfl
    · intro ⟨h1, h2⟩
      have : digB (t k) = false := by simp [digB]; omega
      simp [nstep, this] at h2

theorem nm6 (k : Nat) : nm t len 6 k = nm t len 7 (vn3s t len k) := by
  unfold vn3s
  by_cases h : k < len ∧ (t k = 43 ∨ t k = 45)
  · rw [if_pos h]
    exact nm_go 7 h.1 (by simp [nstep, h.2])
  · rw [if_neg h]
    by_cases hd : k < len ∧ 48 ≤ t k ∧ t k ≤ 57
    · have hb : digB (t k) = true := by simp [digB, hd.2]
      rw [nm_go 8 hd.1 (by simp [nstep, hb]; omega), nm_go 8 hd.1 (by simp [nstep, hb])]
    · rw [nm_stop, nm_stop]
      · rfl
      · intro ⟨h1, h2⟩
        have : digB (t k) = false := by simp [digB]; omega
        simp [nstep, this] at h2
      · intro ⟨h1, h2⟩
        have h3 : digB (t k) = false := by simp [digB]; omega
        have h4 : ¬ (t k = 43 ∨ t k = 45) := fun h4 => h ⟨h1, h4⟩
        simp [nstep, h3, h4] at h2

/-- Behind the whole part or the fraction: an exponent, or the end. -/
theorem vn3_auto (r : Nat) : vn3 t len r = if r < len ∧ (t r = 101 ∨ t r = 69) then nm t len 6 (r + 1) else some r := by
  unfold vn3
  by_cases h : r < len ∧ (t r = 101 ∨ t r = 69)
  · rw [if_pos h, if_pos h, nm6, nm7]
  · rw [if_neg h, if_neg h]

theorem nm5 (k : Nat) : nm t len 5 k = vn3 t len (dg t len k) := by
  rw [nm_digits 5 (fun c hc => by simp [nstep, hc]) _ k (Nat.le_refl _), vn3_auto]
  have h := dg_not (t := t) (len := len) k
  generalize dg t len k = r at h
  by_cases hm : r < len ∧ (t r = 101 ∨ t r = 69)
  · rw [if_pos hm]
    have : digB (t r) = false := by simp [digB]; omega
    exact nm_go 6 hm.1 (by simp [nstep, this, hm.2])
  · rw [if_neg hm, nm_stop]
    · rfl
    · intro ⟨h1, h2⟩
      have h3 : digB (t r) = false := by simp [digB]; omega
      have h4 : ¬ (t r = 101 ∨ t r = 69) := fun h4 => hm ⟨h1, h4⟩
      simp [nstep, h3, h4] at h2

theorem nm4 (k : Nat) : nm t len 4 k = (if dg t len k = k then none else some (dg t len k)).bind (vn3 t len) := by
  by_cases h : k < len ∧ 48 ≤ t k ∧ t k ≤ 57
  · have hn := dg_next h.1 h.2
    have hg := dg_ge t len (k + 1)
    rw [if_neg (by omega), nm_go 5 h.1 (by simp [nstep, digB, h.2]), nm5, hn]
    rfl
  · rw [dg_stay h, if_pos rfl, nm_stop]
    · rfl
    · intro ⟨h1, h2⟩
      have : digB (t k) = false := by simp [digB]; omega
      simp [nstep, this] at h2

theorem nm2 (q : Nat) : nm t len 2 q = (vn2 t len q).bind (vn3 t len) := by
  unfold vn2
  by_cases hp : q < len ∧ t q = 46
  · rw [if_pos hp, ← nm4]
    exact nm_go 4 hp.1 (by simp [nstep, hp.2])
  · rw [if_neg hp, Option.bind_some, vn3_auto]
    by_cases hm : q < len ∧ (t q = 101 ∨ t q = 69)
    · rw [if_pos hm]
      have h46 : t q ≠ 46 := fun h => hp ⟨hm.1, h⟩
      exact nm_go 6 hm.1 (by simp [nstep, h46, hm.2])
    · rw [if_neg hm, nm_stop]
      · rfl
      · intro ⟨h1, h2⟩
        have h3 : t q ≠ 46 := fun h => hp ⟨h1, h⟩
        have h4 : ¬ (t q = 101 ∨ t q = 69) := fun h4 => hm ⟨h1, h4⟩
        simp [nstep, h3, h4] at h2

theorem nm3 (k : Nat) : nm t len 3 k = (vn2 t len (dg t len k)).bind (vn3 t len) := by
  rw [nm_digits 3 (fun c hc => by simp [nstep, hc]) _ k (Nat.le_refl _), ← nm2]
  have h := dg_not (t := t) (len := len) k
  generalize dg t len k = r at h
  by_cases hr : r < len
  · have hd : digB (t r) = false := by simp [digB]; omega
    have hs : nstep 3 (t r) = nstep 2 (t r) := by simp [nstep, hd]
    rcases nstep_range 2 (t r) with h1 | ⟨s, h1, _⟩
    · rw [nm_stop (by simp [hs, h1]), nm_stop (by simp [h1])]; rfl
    · rw [nm_go s hr (by rw [hs]; exact h1), nm_go s hr h1]
  · rw [nm_stop (by simp [hr]), nm_stop (by simp [hr])]; rfl

theorem nm1 (j : Nat) : nm t len 1 j = ((vn1 t len j).bind (vn2 t len)).bind (vn3 t len) := by
  unfold vn1
  by_cases h0 : j < len ∧ t j = 48
  · rw [if_pos h0, nm_go 2 h0.1 (by simp [nstep, h0.2]), nm2]; rfl
  · rw [if_neg h0]
    by_cases h1 : j < len ∧ 49 ≤ t j ∧ t j ≤ 57
    · have hb : digB (t j) = true := by simp [digB]; omega
      rw [if_pos h1, nm_go 3 h1.1 (by simp [nstep, hb]; omega), nm3, dg_next h1.1 (by omega)]; rfl
    · rw [if_neg h1, nm_stop]
      · rfl
      · intro ⟨h2, h3⟩
        have h4 : t j ≠ 48 := fun h => h0 ⟨h2, h⟩
        have h5 : digB (t j) = false := by simp [digB]; omega
        simp [nstep, h4, h5] at h3

/-- The automaton answers as validNumber does. -/
theorem nm_vnum (i : Nat) (hi : i < len) : nm t len 0 i = vnum t len i := by
  unfold vnum
  rw [← nm1]
  unfold vn0
  by_cases h : t i = 45
  · rw [if_pos h]
    exact nm_go 1 hi (by simp [nstep, h])
  · rw [if_neg h]
    have hs : nstep 0 (t i) = nstep 1 (t i) := by simp [nstep, h]
    rcases nstep_range 1 (t i) with h1 | ⟨s, h1, _⟩
    · rw [nm_stop (by simp [hs, h1]), nm_stop (by simp [h1])]; rfl
    · rw [nm_go s hi (by rw [hs]; exact h1), nm_go s hi h1]
end

end Go.Proofs.Qxb6605207a
