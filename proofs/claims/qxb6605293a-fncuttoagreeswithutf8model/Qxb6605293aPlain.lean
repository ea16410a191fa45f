/-
  Plain functions: the width of the character at a place, by the table of well-formed sequences; that the model's decoding has just that width. No Go program here.
-/
import Derived.Lib.RuneCountTail
namespace Go.Proofs.Qxb6605293a

/-- The width of the character that begins with the bytes b0 b1 b2 b3, n bytes being left. -/
def zw (n b0 b1 b2 b3 : Nat) : Nat :=
  if 194 ≤ b0 ∧ b0 ≤ 223 ∧ 2 ≤ n ∧ 128 ≤ b1 ∧ b1 ≤ 191 then 2
  else if 224 ≤ b0 ∧ b0 ≤ 239 ∧ 3 ≤ n ∧ 128 ≤ b1 ∧ b1 ≤ 191 ∧ (b0 ≠ 224 ∨ 160 ≤ b1) ∧ (b0 ≠ 237 ∨ b1 ≤ 159) ∧ 128 ≤ b2 ∧ b2 ≤ 191 then 3
  else if 240 ≤ b0 ∧ b0 ≤ 244 ∧ 4 ≤ n ∧ 128 ≤ b1 ∧ b1 ≤ 191 ∧ (b0 ≠ 240 ∨ 144 ≤ b1) ∧ (b0 ≠ 244 ∨ b1 ≤ 143) ∧ 128 ≤ b2 ∧ b2 ≤ 191 ∧ 128 ≤ b3 ∧ b3 ≤ 191 then 4
  else 1

set_option maxRecDepth 100000 in
set_option maxHeartbeats 4000000 in
theorem zw_eq (n b0 b1 b2 b3 : Nat) (h0 : b0 < 256) (h1 : b1 < 256) (h2 : b2 < 256) (h3 : b3 < 256) : (Lib.decodeN n b0 b1 b2 b3).2 = zw n b0 b1 b2 b3 := by
  unfold Lib.decodeN zw
  repeat' split
  all_goals first | rfl | (exfalso; omega)

theorem zw_range (n b0 b1 b2 b3 : Nat) (hn : 1 ≤ n) : 1 ≤ zw n b0 b1 b2 b3 ∧ zw n b0 b1 b2 b3 ≤ n ∧ zw n b0 b1 b2 b3 ≤ 4 := by
  unfold zw
  repeat' split
  all_goals omega

def P2 (n b0 b1 : Nat) : Prop := 194 ≤ b0 ∧ b0 ≤ 223 ∧ 2 ≤ n ∧ 128 ≤ b1 ∧ b1 ≤ 191
def P3 (n b0 b1 b2 : Nat) : Prop := 224 ≤ b0 ∧ b0 ≤ 239 ∧ 3 ≤ n ∧ 128 ≤ b1 ∧ b1 ≤ 191 ∧ (b0 ≠ 224 ∨ 160 ≤ b1) ∧ (b0 ≠ 237 ∨ b1 ≤ 159) ∧ 128 ≤ b2 ∧ b2 ≤ 191
def P4 (n b0 b1 b2 b3 : Nat) : Prop := 240 ≤ b0 ∧ b0 ≤ 244 ∧ 4 ≤ n ∧ 128 ≤ b1 ∧ b1 ≤ 191 ∧ (b0 ≠ 240 ∨ 144 ≤ b1) ∧ (b0 ≠ 244 ∨ b1 ≤ 143) ∧ 128 ≤ b2 ∧ b2 ≤ 191 ∧ 128 ≤ b3 ∧ b3 ≤ 191

theorem zw_two {n b0 b1 b2 b3 : Nat} (h : P2 n b0 b1) : zw n b0 b1 b2 b3 = 2 := if_pos h
theorem zw_three {n b0 b1 b2 b3 : Nat} (h : P3 n b0 b1 b2) : zw n b0 b1 b2 b3 = 3 := by
  unfold zw
  rw [if_neg (by unfold P3 at h; omega)]
  exact if_pos h
theorem zw_four {n b0 b1 b2 b3 : Nat} (h : P4 n b0 b1 b2 b3) : zw n b0 b1 b2 b3 = 4 := by
  unfold zw
  rw [if_neg (by unfold P4 at h; omega), if_neg (by unfold P4 at h; omega)]
  exact if_pos h
theorem zw_one {n b0 b1 b2 b3 : Nat} (h2 : ¬ P2 n b0 b1) (h3 : ¬ P3 n b0 b1 b2) (h4 : ¬ P4 n b0 b1 b2 b3) : zw n b0 b1 b2 b3 = 1 := by
  unfold zw
  unfold P2 at h2
  unfold P3 at h3
  unfold P4 at h4
  rw [if_neg h2, if_neg h3, if_neg h4]

/-- The width stays where the character's own bytes stay, and what follows is no continuation. -/
theorem zw_local (r n n' b0 b1 b2 b3 c1 c2 c3 : Nat) (hn : r ≤ n) (hn' : r ≤ n') (hw : zw n b0 b1 b2 b3 ≤ r)
    (e1 : 1 < r → c1 = b1) (e2 : 2 < r → c2 = b2) (e3 : 3 < r → c3 = b3) (f1 : r ≤ 1 → c1 < 128) (f2 : r ≤ 2 → c2 < 128) (f3 : r ≤ 3 → c3 < 128) :
    zw n' b0 c1 c2 c3 = zw n b0 b1 b2 b3 := by
  by_cases h2 : P2 n b0 b1
  · rw [zw_two h2] at hw ⊢
    have g1 := e1 (by omega)
    subst g1
    exact zw_two (by unfold P2 at *; omega)
  · by_cases h3 : P3 n b0 b1 b2
    · rw [zw_three h3] at hw ⊢
      have g1 := e1 (by omega)
      have g2 := e2 (by omega)
      subst g1; subst g2
      exact zw_three (by unfold P3 at *; omega)
    · by_cases h4 : P4 n b0 b1 b2 b3
      · rw [zw_four h4] at hw ⊢
        have g1 := e1 (by omega)
        have g2 := e2 (by omega)
        have g3 := e3 (by omega)
        subst g1; subst g2; subst g3
        exact zw_four (by unfold P4 at *; omega)
      · rw [zw_one h2 h3 h4]
        refine zw_one ?_ ?_ ?_
        · intro hq
          by_cases hr1 : r ≤ 1
          · have := f1 hr1; unfold P2 at hq; omega
          · have g1 := e1 (by omega)
            subst g1
            exact h2 (by unfold P2 at *; omega)
        · intro hq
          by_cases hr1 : r ≤ 2
          · have := f2 hr1; unfold P3 at hq; omega
          · have g1 := e1 (by omega)
            have g2 := e2 (by omega)
            subst g1; subst g2
            exact h3 (by unfold P3 at *; omega)
        · intro hq
          by_cases hr1 : r ≤ 3
          · have := f3 hr1; unfold P4 at hq; omega
          · have g1 := e1 (by omega)
            have g2 := e2 (by omega)
            have g3 := e3 (by omega)
            subst g1; subst g2; subst g3
            exact h4 (by unfold P4 at *; omega)

end Go.Proofs.Qxb6605293a
