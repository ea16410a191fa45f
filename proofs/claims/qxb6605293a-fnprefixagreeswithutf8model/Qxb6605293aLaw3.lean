/-
  The walk of FnPrefixAgreesWithUTF8Model.
-/
import Derived.Test.Qxb6605293aWalks2
namespace Go.Proofs.Qxb6605293a
open Go.RowKit
set_option linter.unusedVariables false

theorem bytes7_any (s : ByteArray) (x : Int) (hs : s.size ≤ maxLen) (w : World) :
    Calls Try.prog 7 #[.string s, .int .i64 x] w fun e w' => ∃ r : Bool, e = .returned (.bool r) ∧ w' = w ∧ (s.size ≤ 1048576 → r = true) := by
  unfold maxLen at hs
  go_enter Try.func7, Try.ntmps7
  go_wp2
  all_goals
    go_ret
    exact ⟨_, rfl, rfl, by intros; first | rfl | omega⟩

set_option maxRecDepth 100000 in
set_option maxHeartbeats 1000000 in
theorem law3_out (s : ByteArray) (x : Int) (hs : s.size ≤ maxLen) (hout : ¬ s.size ≤ 1048576) (w : World) :
    Calls Try.prog 3 #[.string s, .int .i64 x] w fun e w' => e = .returned (.bool true) ∧ Below w.heap.size w w' := by
  have H := bytes7_any s x hs w
  unfold maxLen at hs
  go_enter Try.func3, Try.ntmps3
  go_wp2_with fail
  refine H.mono ?_
  rintro e w' ⟨r, rfl, rfl, _⟩
  cases r
  · go_wp2_with fail
    go_ret
    exact ⟨rfl, Below.refl _ _⟩
  · go_wp2_with fail
    go_ret
    exact ⟨rfl, Below.refl _ _⟩

set_option maxRecDepth 100000 in
set_option maxHeartbeats 2000000 in
theorem law3_in (s : ByteArray) (x : Int) (hs : s.size ≤ 1048576) (hx0 : -9223372036854775808 ≤ x) (hx1 : x ≤ 9223372036854775807) (w : World) :
    Calls Try.prog 3 #[.string s, .int .i64 x] w fun e w' => e = .returned (.bool true) ∧ Below w.heap.size w w' := by
  obtain ⟨c, hcs, hc⟩ := exists_cnt s
  have H := bytes7_any s x (by unfold maxLen; omega) w
  have HP := ZZprefix_any s (by omega) x c hc hcs w
  have HN : Hid (∀ w, Calls Try.prog 9 #[.string s] w fun e w' => e = .returned (.int .i64 c) ∧ w' = w) := count_any s (by omega) c hc hcs
  unfold ansP at HP
  by_cases hx : x < 0 ∨ (c : Int) ≤ x
  · rw [pre, if_pos hx] at HP
    clear hc
    go_enter Try.func3, Try.ntmps3
    go_wp2_with fail
    refine H.mono ?_
    rintro e w' ⟨r, rfl, rfl, hr⟩
    obtain rfl := hr hs
    clear hr H
    go_wp2_with fail
    refine HP.mono ?_
    rintro e w1 ⟨rfl, hb⟩
    have HB : Hid (Below w'.heap.size w' w1) := hb
    clear hb
    go_wp2_with fail
    refine (HN.out _).mono ?_
    rintro e w2 ⟨rfl, rfl⟩
    by_cases hneg : x < 0
    · clear hx
      go_wp2_with fail
      go_ret
      exact ⟨rfl, HB.out⟩
    · have hle : (c : Int) ≤ x := by omega
      clear hx
      go_wp2_with fail
      go_ret
      exact ⟨rfl, HB.out⟩
  · rw [pre, if_neg hx] at HP
    obtain ⟨M, rfl⟩ : ∃ M : Nat, x = M := ⟨x.toNat, by omega⟩
    have HO : Hid (∀ w, Calls Try.prog 10 #[.string s, .int .i64 M] w fun e w' => e = .returned (.int .i64 (offs s M)) ∧ w' = w) := fun w => offset_any s (by omega) M M rfl (by omega) w
    have hle := offs_le s M
    rw [Int.toNat_natCast] at HP
    have hlt : M < c := by omega
    generalize offs s M = m at *
    clear hc hx
    go_enter Try.func3, Try.ntmps3
    go_wp2_with fail
    refine H.mono ?_
    rintro e w' ⟨r, rfl, rfl, hr⟩
    obtain rfl := hr hs
    clear hr H
    go_wp2_with fail
    refine HP.mono ?_
    rintro e w1 ⟨rfl, hb⟩
    have HB : Hid (Below w'.heap.size w' w1) := hb
    clear hb
    go_wp2_with fail
    refine (HN.out _).mono ?_
    rintro e w2 ⟨rfl, rfl⟩
    go_wp2_with fail
    refine (HO.out _).mono ?_
    rintro e w3 ⟨rfl, rfl⟩
    go_wp2_with fail
    go_ret
    exact ⟨rfl, HB.out⟩

end Go.Proofs.Qxb6605293a
