/-
  The walk of FnValidStringMatchesAutomaton.
-/
import Derived.Test.Qxb6605207aStrWalks2
import Derived.Test.Qxb6605207aFresh
namespace Go.Proofs.Qxb6605207a
open Go.RowKit
set_option linter.unusedVariables false

theorem bytes14_any (a0 : Option Addr) (len cap : Nat) (a1 : Int) (hl : len ≤ maxLen) (w : World) :
    Calls Try.prog 14 #[.slice a0 len cap, .int .i64 a1] w fun e w' => ∃ r : Bool, e = .returned (.bool r) ∧ w' = w ∧ (len ≤ 1048576 → r = true) := by
  unfold maxLen at hl
  go_enter Try.func14, Try.ntmps14
  go_wp2
  all_goals
    go_ret
    exact ⟨_, rfl, rfl, by intros; first | rfl | omega⟩

theorem ZZvalidString_any (t : Nat → Int) (ht : ∀ k, 0 ≤ t k ∧ t k ≤ 255) (b len cap : Nat) (x : Int) (i : Nat) (hx : x = i) (w : World) (hl : len ≤ 1000000000) (hcap : len ≤ cap) (hi : i < len)
    (hc : ∀ k, k < len → w.cell? ⟨b, k, none⟩ = some (.int .u8 (t k))) :
    Calls Try.prog 15 #[.slice (some ⟨b, 0, none⟩) len cap, .int .i64 x] w fun e w' => e = .returned (ansS (sm t len 0 false (i + 1))) ∧ w' = w := by
  have H := validString_any t ht b len cap x i hx w hl hcap hi hc
  clear hc ht hx
  go_enter Try.func15, Try.ntmps15
  go_wp2_with fail
  refine H.mono ?_
  rintro e w' ⟨rfl, rfl⟩
  unfold ansS
  go_wp2_with fail
  go_ret3
  exact ⟨rfl, rfl⟩

set_option maxRecDepth 100000 in
set_option maxHeartbeats 2000000 in
theorem law5_out (a0 : Option Addr) (len cap : Nat) (a1 : Int) (hl : len ≤ maxLen) (hout : ¬ (len ≤ 1048576 ∧ 0 ≤ a1 ∧ a1 < len)) (w : World) :
    Calls Try.prog 5 #[.slice a0 len cap, .int .i64 a1] w fun e w' => e = .returned (.bool true) ∧ Below w.heap.size w w' := by
  have H := bytes14_any a0 len cap a1 hl w
  unfold maxLen at hl
  go_enter Try.func5, Try.ntmps5
  go_wp2_with fail
  refine H.mono ?_
  rintro e w' ⟨r, rfl, rfl, _⟩
  cases r
  · go_wp2_with fail
    go_ret
    exact ⟨rfl, Below.refl _ _⟩
  · by_cases h1 : len ≤ 1048576
    · by_cases h2 : a1 < 0
      · go_wp2_with fail
        go_ret
        exact ⟨rfl, Below.refl _ _⟩
      · have h3 : (len : Int) ≤ a1 := by omega
        clear hout
        go_wp2_with fail
        go_ret
        exact ⟨rfl, Below.refl _ _⟩
    · go_wp2_with fail
      go_ret
      exact ⟨rfl, Below.refl _ _⟩

set_option maxRecDepth 100000 in
set_option maxHeartbeats 2000000 in
theorem law5_in (b off len cap : Nat) (a1 : Int) (t : Nat → Int) (ht : ∀ k, 0 ≤ t k ∧ t k ≤ 255) (hl : len ≤ 1048576) (h0 : 0 ≤ a1) (h1 : a1 < len) (w : World) (hb : b < w.heap.size)
    (hc : ∀ k, k < len → w.cell? ⟨b, off + k, none⟩ = some (.int .u8 (t k))) :
    Calls Try.prog 5 #[.slice (some ⟨b, off, none⟩) len cap, .int .i64 a1] w fun e w' => e = .returned (.bool true) ∧ Below w.heap.size w w' := by
  have H := bytes14_any (some ⟨b, off, none⟩) len cap a1 (by unfold maxLen; omega) w
  have HC : Hid (∀ k, k < len → w.cell? ⟨b, off + k, none⟩ = some (.int .u8 (t k))) := hc
  have HT : Hid (∀ k, 0 ≤ t k ∧ t k ≤ 255) := ht
  clear hc ht
  go_enter Try.func5, Try.ntmps5
  go_wp2_with fail
  refine H.mono ?_
  rintro e w' ⟨r, rfl, rfl, hr⟩
  obtain rfl := hr hl
  clear hr
  go_wp2_with (first | (at_make; refine makeFull_law rfl _ _ rfl _ _ _ len rfl rfl rfl rfl (by omega) ?_; intro wm hm) | (refine copy_law rfl _ _ rfl w' _ len cap b off t rfl rfl (by assumption) hb HC.out ?_; intro wf hf hbf hsf))
  obtain ⟨i, rfl⟩ := Int.eq_ofNat_of_zero_le h0
  have H1 := ZZvalidString_any t HT.out w'.heap.size len len i i rfl wf (by omega) (Nat.le_refl _) (by omega) hf
  have H2 := stringModel_any t HT.out w'.heap.size len len i i rfl wf (by unfold maxLen; omega) (by omega) hf
  generalize sm t len 0 false (i + 1) = o at H1 H2
  clear hf
  have HB : Hid (Below w'.heap.size w' wf) := hbf
  clear hbf
  refine H1.mono ?_
  rintro e wx ⟨rfl, rfl⟩
  obtain ⟨a, e, k, ha⟩ : ∃ (a : Int) (e k : Bool), ansS o = .tuple #[.int .i64 a, .bool e, .bool k] := ⟨_, _, _, rfl⟩
  rw [ha]
  rw [ha] at H2
  clear ha H1
  go_wp2_with fail
  refine H2.mono ?_
  rintro e2 wy ⟨rfl, rfl⟩
  go_wp2_with fail
  go_ret
  exact ⟨rfl, HB.out⟩

end Go.Proofs.Qxb6605207a
