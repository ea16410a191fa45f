/-
  The walks of zzIn and zzWidth.
-/
import Derived.Test.Qxb6605293aRows
import Derived.Test.Qxb6605293aOffs
import Derived.WalkKit
import Derived.WalkSpells
import Derived.WalkLawsBesides
import Derived.Laws.RangeAny
import Derived.Deep.Light
namespace Go.Proofs.Qxb6605293a
open Go.RowKit
set_option linter.unusedVariables false

theorem ret_int {k : IntKind} {a b : Int} (h : a = b) : Ending.returned (.int k a) = .returned (.int k b) := by rw [h]
theorem ret_bool {a b : Bool} (h : a = b) : Ending.returned (.bool a) = .returned (.bool b) := by rw [h]

/-- b lies in [lo, hi]. -/
def inB (b lo hi : Int) : Bool := decide (lo ≤ b ∧ b ≤ hi)

theorem in_any (b lo hi : Int) (w : World) : Calls Try.prog 18 #[.int .u8 b, .int .u8 lo, .int .u8 hi] w fun e w' => e = .returned (.bool (inB b lo hi)) ∧ w' = w := by
  go_enter Try.func18, Try.ntmps18
  go_wp2
  all_goals go_ret
  all_goals refine ⟨ret_bool ?_, rfl⟩
  all_goals (rw [Bool.eq_iff_iff]; simp [inB] <;> omega)

set_option maxRecDepth 100000 in
set_option maxHeartbeats 2000000 in
theorem width_core (s : ByteArray) (i : Nat) (hs : s.size ≤ 1000000000) (hi : i < s.size) (x0 x1 x2 x3 : Nat) (b0 : x0 < 256) (b1 : x1 < 256) (b2 : x2 < 256) (b3 : x3 < 256)
    (h0 : (s[i]'hi).toNat = x0) (h1 : ∀ h : i + 1 < s.size, (s[i + 1]'h).toNat = x1) (h2 : ∀ h : i + 2 < s.size, (s[i + 2]'h).toNat = x2) (h3 : ∀ h : i + 3 < s.size, (s[i + 3]'h).toNat = x3) (w : World) :
    Calls Try.prog 17 #[.string s, .int .i64 i] w fun e w' => e = .returned (.int .i64 (zw (s.size - i) x0 x1 x2 x3 : Nat)) ∧ w' = w := by
  generalize hz : zw (s.size - i) x0 x1 x2 x3 = z
  have HZ : Hid (zw (s.size - i) x0 x1 x2 x3 = z) := hz
  clear hz
  have hx : (x0 < 194 ∨ (194 ≤ x0 ∧ x0 ≤ 223) ∨ x0 = 224 ∨ (225 ≤ x0 ∧ x0 ≤ 236) ∨ x0 = 237 ∨ (238 ≤ x0 ∧ x0 ≤ 239) ∨ x0 = 240 ∨ (241 ≤ x0 ∧ x0 ≤ 243) ∨ x0 = 244 ∨ 245 ≤ x0) := by omega
  rcases hx with c | ⟨c, c'⟩ | c | ⟨c, c'⟩ | c | ⟨c, c'⟩ | c | ⟨c, c'⟩ | c | c
  all_goals
    go_enter Try.func17, Try.ntmps17
    go_wp2_with (go_at_call 18; refine (in_any _ _ _ _).mono ?_; rintro e w' ⟨rfl, rfl⟩)
    all_goals (
      go_ret
      refine ⟨ret_int ?_, rfl⟩
      rw [← HZ.out]
      go_light
      try simp only [inB, decide_eq_true_eq, decide_eq_false_iff_not] at *
      first
        | (have q2 : ¬ P2 (s.size - i) x0 x1 := by unfold P2; omega
           have q3 : ¬ P3 (s.size - i) x0 x1 x2 := by unfold P3; omega
           have q4 : ¬ P4 (s.size - i) x0 x1 x2 x3 := by unfold P4; omega
           rw [zw_one q2 q3 q4]; rfl)
        | (have q : P2 (s.size - i) x0 x1 := by unfold P2; omega
           rw [zw_two q]; rfl)
        | (have q : P3 (s.size - i) x0 x1 x2 := by unfold P3; omega
           rw [zw_three q]; rfl)
        | (have q : P4 (s.size - i) x0 x1 x2 x3 := by unfold P4; omega
           rw [zw_four q]; rfl))

theorem width_any (s : ByteArray) (x : Int) (i : Nat) (hx : x = i) (hs : s.size ≤ 1000000000) (hi : i < s.size) (w : World) :
    Calls Try.prog 17 #[.string s, .int .i64 x] w fun e w' => e = .returned (.int .i64 (W s i : Nat)) ∧ w' = w := by
  subst hx
  have hg : ∀ j (h : j < s.size), (s[j]'h).toNat = (s.get! j).toNat := fun j h => by
    have := get_at s j h
    rw [Nat.add_zero] at this; rw [this]
  rw [W_zw]
  exact width_core s i hs hi _ _ _ _ (UInt8.toNat_lt _) (UInt8.toNat_lt _) (UInt8.toNat_lt _) (UInt8.toNat_lt _) (hg i hi) (hg (i + 1)) (hg (i + 2)) (hg (i + 3)) w

end Go.Proofs.Qxb6605293a
