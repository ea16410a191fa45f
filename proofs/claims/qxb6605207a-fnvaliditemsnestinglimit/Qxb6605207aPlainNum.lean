/-
  The plain law of written numbers: no Go here.
-/
import Derived.Test.Qxb6605207aPlain
namespace Go.Proofs.Qxb6605207a

/-- A text as a function of places. -/
def tt (M : List Int) (k : Nat) : Int := M.getD k 0

theorem tt_at (A R : List Int) (k : Nat) : tt (A ++ R) (A.length + k) = R.getD k 0 := by
  simp [tt, List.getD_eq_getElem?_getD, List.getElem?_append_right]

theorem tt_head (A R : List Int) : tt (A ++ R) A.length = R.getD 0 0 := by
  have := tt_at A R 0; simpa using this

/-- The list does not begin with a digit. -/
def NoDig (R : List Int) : Prop := ∀ r, R.head? = some r → ¬ (48 ≤ r ∧ r ≤ 57)

theorem dg_list (M A D R : List Int) (hM : M = A ++ (D ++ R)) (hD : ∀ d ∈ D, 48 ≤ d ∧ d ≤ 57) (hR : NoDig R) : dg (tt M) M.length A.length = (A ++ D).length := by
  subst hM
  refine dg_eq _ _ _ _ (by simp) ?_ ?_
  · intro k h1 h2
    obtain ⟨j, rfl⟩ : ∃ j, k = A.length + j := ⟨k - A.length, by omega⟩
    have hj : j < D.length := by simp at h2; omega
    rw [tt_at, List.getD_eq_getElem?_getD, List.getElem?_append_left hj, List.getElem?_eq_getElem hj]
    exact ⟨by simp; omega, hD _ (List.getElem_mem hj)⟩
  · intro ⟨h1, h2⟩
    rw [← List.append_assoc, tt_head] at h2
    cases R with
    | nil => simp at h1
    | cons r R => exact hR r rfl (by simpa using h2)

theorem vn1_list (M A D R : List Int) (hM : M = A ++ (D ++ R)) (hD : ∀ d ∈ D, 48 ≤ d ∧ d ≤ 57) (hne : D ≠ []) (hh : D.length = 1 ∨ D.getD 0 0 ≠ 48) (hR : NoDig R) :
    vn1 (tt M) M.length A.length = some (A ++ D).length := by
  cases D with
  | nil => exact absurd rfl hne
  | cons d D =>
    have h0 : tt M A.length = d := by rw [hM, tt_head]; rfl
    have hl : A.length < M.length := by rw [hM]; simp
    have hd := hD d (by simp)
    unfold vn1
    rw [h0]
    by_cases e : d = 48
    · rw [if_pos ⟨hl, e⟩]
      have : D = [] := by
        rcases hh with h | h
        · simpa using h
        · exact absurd e (by simpa using h)
      subst this
      simp
    · rw [if_neg (by simp [e]), if_pos ⟨hl, by omega, by omega⟩, dg_list M A (d :: D) R hM hD hR]

theorem vn2_none (M A R : List Int) (hM : M = A ++ R) (hR : R.head? ≠ some 46) : vn2 (tt M) M.length A.length = some A.length := by
  unfold vn2
  rw [if_neg]
  intro ⟨h1, h2⟩
  rw [hM, tt_head] at h2
  cases R with
  | nil => simp [hM] at h1
  | cons r R => exact hR (by simpa using h2)

theorem vn2_some (M A fs R : List Int) (hM : M = A ++ (46 :: (fs ++ R))) (hD : ∀ d ∈ fs, 48 ≤ d ∧ d ≤ 57) (hne : fs ≠ []) (hR : NoDig R) :
    vn2 (tt M) M.length A.length = some (A ++ 46 :: fs).length := by
  have h0 : tt M A.length = 46 := by rw [hM, tt_head]; rfl
  have hd := dg_list M (A ++ [46]) fs R (by rw [hM]; simp) hD hR
  have e : (A ++ [46]).length = A.length + 1 := by simp
  rw [e] at hd
  have hl : 0 < fs.length := List.length_pos_iff.2 hne
  unfold vn2
  rw [if_pos ⟨by rw [hM]; simp, h0⟩, hd, if_neg (by simp; omega)]
  simp

theorem vn3_none (M A R : List Int) (hM : M = A ++ R) (hR : R.head? ≠ some 101) (hR2 : R.head? ≠ some 69) : vn3 (tt M) M.length A.length = some A.length := by
  unfold vn3
  rw [if_neg]
  intro ⟨h1, h2⟩
  rw [hM, tt_head] at h2
  cases R with
  | nil => simp [hM] at h1
  | cons r R =>
    rcases h2 with h2 | h2
    · exact hR (by simpa using h2)
    · exact hR2 (by simpa using h2)

theorem vn3s_none (M A fs R : List Int) (hM : M = A ++ (fs ++ R)) (hD : ∀ d ∈ fs, 48 ≤ d ∧ d ≤ 57) (hne : fs ≠ []) : vn3s (tt M) M.length A.length = A.length := by
  unfold vn3s
  rw [if_neg]
  intro ⟨h1, h2⟩
  rw [hM, tt_head] at h2
  cases fs with
  | nil => exact absurd rfl hne
  | cons r fs =>
    have := hD r (by simp)
    simp at h2
    omega

theorem vn3s_some (M A R : List Int) (s : Int) (hs : s = 43 ∨ s = 45) (hM : M = A ++ (s :: R)) : vn3s (tt M) M.length A.length = A.length + 1 := by
  unfold vn3s
  have h0 : tt M A.length = s := by rw [hM, tt_head]; rfl
  rw [if_pos ⟨by rw [hM]; simp, by rw [h0]; exact hs⟩]

theorem vn3_some (M A fs R sg : List Int) (m : Int) (hm : m = 101 ∨ m = 69) (hsg : sg = [] ∨ sg = [43] ∨ sg = [45]) (hM : M = A ++ (m :: (sg ++ (fs ++ R)))) (hD : ∀ d ∈ fs, 48 ≤ d ∧ d ≤ 57) (hne : fs ≠ []) (hR : NoDig R) :
    vn3 (tt M) M.length A.length = some (A ++ m :: (sg ++ fs)).length := by
  have h0 : tt M A.length = m := by rw [hM, tt_head]; rfl
  have hl : 0 < fs.length := List.length_pos_iff.2 hne
  have e1 : (A ++ [m]).length = A.length + 1 := by simp
  have hs : vn3s (tt M) M.length (A.length + 1) = (A ++ m :: sg).length := by
    rw [← e1]
    rcases hsg with rfl | rfl | rfl
    · rw [vn3s_none M (A ++ [m]) fs R (by rw [hM]; simp) hD hne]
    · rw [vn3s_some M (A ++ [m]) (fs ++ R) 43 (.inl rfl) (by rw [hM]; simp)]; simp
    · rw [vn3s_some M (A ++ [m]) (fs ++ R) 45 (.inr rfl) (by rw [hM]; simp)]; simp
  have hd := dg_list M (A ++ m :: sg) fs R (by rw [hM]; simp) hD hR
  unfold vn3
  rw [if_pos ⟨by rw [hM]; simp, by rw [h0]; exact hm⟩, hs, hd, if_neg (by simp; omega)]
  simp

/-- A fraction as it is written: none, or a point and digits. -/
def IsFrac (F : List Int) : Prop := F = [] ∨ ∃ fs, F = 46 :: fs ∧ fs ≠ [] ∧ ∀ d ∈ fs, 48 ≤ d ∧ d ≤ 57
/-- An exponent as it is written. -/
def IsExp (E : List Int) : Prop := E = [] ∨ ∃ m sg es, E = m :: (sg ++ es) ∧ (m = 101 ∨ m = 69) ∧ (sg = [] ∨ sg = [43] ∨ sg = [45]) ∧ es ≠ [] ∧ ∀ d ∈ es, 48 ≤ d ∧ d ≤ 57
/-- What follows the number. -/
def IsTail (T : List Int) : Prop := T = [] ∨ T = [32] ∨ T = [44] ∨ T = [93] ∨ T = [125] ∨ T = [120]

theorem noDig_tail {T : List Int} (h : IsTail T) : NoDig T ∧ T.head? ≠ some 46 ∧ T.head? ≠ some 101 ∧ T.head? ≠ some 69 := by
  rcases h with rfl | rfl | rfl | rfl | rfl | rfl <;> simp [NoDig]

theorem noDig_exp {E T : List Int} (h : IsExp E) (hT : IsTail T) : NoDig (E ++ T) ∧ (E ++ T).head? ≠ some 46 := by
  rcases h with rfl | ⟨m, sg, es, rfl, hm, _⟩
  · exact ⟨(noDig_tail hT).1, (noDig_tail hT).2.1⟩
  · refine ⟨fun r hr => ?_, ?_⟩
    · simp at hr; omega
    · simp; omega

theorem noDig_frac {F E T : List Int} (hF : IsFrac F) (h : IsExp E) (hT : IsTail T) : NoDig (F ++ (E ++ T)) := by
  rcases hF with rfl | ⟨fs, rfl, _⟩
  · exact (noDig_exp h hT).1
  · intro r hr
    simp at hr; omega

theorem vnum_written (S D F E T : List Int) (hS : S = [] ∨ S = [45]) (hD : ∀ d ∈ D, 48 ≤ d ∧ d ≤ 57) (hne : D ≠ []) (hh : D.length = 1 ∨ D.getD 0 0 ≠ 48)
    (hF : IsFrac F) (hE : IsExp E) (hT : IsTail T) :
    vnum (tt (S ++ (D ++ (F ++ (E ++ T))))) (S ++ (D ++ (F ++ (E ++ T)))).length 0 = some (S ++ (D ++ (F ++ E))).length := by
  generalize hM : S ++ (D ++ (F ++ (E ++ T))) = M
  have h0 : vn0 (tt M) 0 = S.length := by
    rcases hS with rfl | rfl
    · cases D with
      | nil => exact absurd rfl hne
      | cons d D =>
        have := hD d (by simp)
        have e : tt M 0 = d := by rw [← hM]; rfl
        simp [vn0, e]; omega
    · have e : tt M 0 = 45 := by rw [← hM]; rfl
      simp [vn0, e]
  have h1 := vn1_list M S D (F ++ (E ++ T)) hM.symm hD hne hh (noDig_frac hF hE hT)
  have h2 : vn2 (tt M) M.length (S ++ D).length = some (S ++ D ++ F).length := by
    rcases hF with rfl | ⟨fs, rfl, hfs, hfd⟩
    · rw [vn2_none M (S ++ D) (E ++ T) (by rw [← hM]; simp) (noDig_exp hE hT).2]; simp
    · rw [vn2_some M (S ++ D) fs (E ++ T) (by rw [← hM]; simp) hfd hfs (noDig_exp hE hT).1]
  have h3 : vn3 (tt M) M.length (S ++ D ++ F).length = some (S ++ D ++ F ++ E).length := by
    rcases hE with rfl | ⟨m, sg, es, rfl, hm, hsg, hes, hed⟩
    · rw [vn3_none M (S ++ D ++ F) T (by rw [← hM]; simp) (noDig_tail hT).2.2.1 (noDig_tail hT).2.2.2]; simp
    · rw [vn3_some M (S ++ D ++ F) es T sg m hm hsg (by rw [← hM]; simp) hed hes (noDig_tail hT).1]
  simp only [vnum, h0, h1, Option.bind_some, h2, h3]
  simp

end Go.Proofs.Qxb6605207a
