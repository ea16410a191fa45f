/-
  The walks of zzNumberModel and of FnValidNumberMatchesAutomaton.
-/
import Derived.Test.Qxb6605207aNumWalks
import Derived.Test.Qxb6605207aAutoWalks
import Derived.Test.Qxb6605207aFresh
namespace Go.Proofs.Qxb6605207a
open Go.RowKit
set_option linter.unusedVariables false

set_option maxRecDepth 100000 in
set_option maxHeartbeats 2000000 in
theorem numberModel_any (t : Nat → Int) (ht : ∀ k, 0 ≤ t k ∧ t k ≤ 255) (b len cap : Nat) (x : Int) (i : Nat) (hx : x = i) (w : World) (hl : len ≤ maxLen) (hi : i < len)
    (hc : ∀ k, k < len → w.cell? ⟨b, k, none⟩ = some (.int .u8 (t k))) :
    Calls Try.prog 11 #[.slice (some ⟨b, 0, none⟩) len cap, .int .i64 x] w fun e w' => e = .returned (ansN (nm t len 0 i)) ∧ w' = w := by
  subst hx
  unfold maxLen at hl
  have HC : Hid (∀ k, k < len → w.cell? ⟨b, k, none⟩ = some (.int .u8 (t k))) := hc
  have HT : Hid (∀ k, 0 ≤ t k ∧ t k ≤ 255) := ht
  clear hc ht
  go_enter Try.func11, Try.ntmps11
  go_wp2_with fail
  go_loop [6, 7] (fun a q => ∃ (st p : Nat), st ≤ 8 ∧ p ≤ len ∧ a = .int .i64 st ∧ q = .int .i64 p ∧ Hid (nm t len 0 i = nm t len st p)) (fun _ q => len - (intOf q).toNat)
  case atStart => exact ⟨0, i, by omega, by omega, rfl, rfl, rfl⟩
  case round =>
    obtain ⟨st, p, hst, hp, rfl, rfl, HS⟩ := hrel
    have H24 := accepting_any st hst w
    by_cases hlt : p < len
    · have hcp := HC.out p hlt
      obtain ⟨htp0, htp1⟩ := HT.out p
      have H23 := numStep_any st hst (t p) htp0 htp1 w
      rcases nstep_range st (t p) with hs | ⟨s, hs, hs8⟩
      · have HF : Hid (nm t len 0 i = if nacc st = true then some p else none) := by rw [Hid, HS.out, nm_stop (by simp [hs])]
        rw [hs] at H23
        clear hs
        cases hacc : nacc st
        · rw [hacc] at H24
          have HG : Hid (nm t len 0 i = none) := by rw [Hid, HF.out, hacc]; rfl
          clear HF hacc
          go_wp2_with (first | (go_at_call 23; refine H23.mono ?_; rintro e w' ⟨rfl, rfl⟩) | (go_at_call 24; refine H24.mono ?_; rintro e w' ⟨rfl, rfl⟩))
          go_ret2
          rw [HG.out]
          exact ⟨rfl, rfl⟩
        · rw [hacc] at H24
          have HG : Hid (nm t len 0 i = some p) := by rw [Hid, HF.out, hacc]; rfl
          clear HF hacc
          go_wp2_with (first | (go_at_call 23; refine H23.mono ?_; rintro e w' ⟨rfl, rfl⟩) | (go_at_call 24; refine H24.mono ?_; rintro e w' ⟨rfl, rfl⟩))
          go_ret2
          rw [HG.out]
          exact ⟨rfl, rfl⟩
      · have HF : Hid (nm t len 0 i = nm t len s (p + 1)) := by rw [Hid, HS.out, nm_go s hlt hs]
        rw [hs] at H23
        have hsb : ((s : Int) == -1) = false := by simp
        clear hs H24
        go_wp2_with (go_at_call 23; refine H23.mono ?_; rintro e w' ⟨rfl, rfl⟩)
        go_round
        case rel => exact ⟨s, p + 1, hs8, by omega, rfl, by go_num, HF⟩
        case measure => simp [intOf]; omega
    · have HF : Hid (nm t len 0 i = if nacc st = true then some p else none) := by rw [Hid, HS.out, nm_stop (by simp [hlt])]
      cases hacc : nacc st
      · rw [hacc] at H24
        have HG : Hid (nm t len 0 i = none) := by rw [Hid, HF.out, hacc]; rfl
        clear HF hacc
        go_wp2_with (go_at_call 24; refine H24.mono ?_; rintro e w' ⟨rfl, rfl⟩)
        go_ret2
        rw [HG.out]
        exact ⟨rfl, rfl⟩
      · rw [hacc] at H24
        have HG : Hid (nm t len 0 i = some p) := by rw [Hid, HF.out, hacc]; rfl
        clear HF hacc
        go_wp2_with (go_at_call 24; refine H24.mono ?_; rintro e w' ⟨rfl, rfl⟩)
        go_ret2
        rw [HG.out]
        exact ⟨rfl, rfl⟩

theorem bytes9_any (a0 : Option Addr) (len cap : Nat) (a1 : Int) (hl : len ≤ maxLen) (w : World) :
    Calls Try.prog 9 #[.slice a0 len cap, .int .i64 a1] w fun e w' => ∃ r : Bool, e = .returned (.bool r) ∧ w' = w ∧ (len ≤ 1048576 → r = true) := by
  unfold maxLen at hl
  go_enter Try.func9, Try.ntmps9
  go_wp2
  all_goals
    go_ret
    exact ⟨_, rfl, rfl, by intros; first | rfl | omega⟩

theorem ZZvalidNumber3_any (t : Nat → Int) (ht : ∀ k, 0 ≤ t k ∧ t k ≤ 255) (b len cap : Nat) (x : Int) (i : Nat) (hx : x = i) (w : World) (hl : len ≤ maxLen) (hi : i < len) (hb : b < w.heap.size)
    (hc : ∀ k, k < len → w.cell? ⟨b, k, none⟩ = some (.int .u8 (t k))) :
    Calls Try.prog 10 #[.slice (some ⟨b, 0, none⟩) len cap, .int .i64 x] w fun e w' => e = .returned (ansN (vnum t len i)) ∧ Below w.heap.size w w' := by
  subst hx
  have H := validNumber_any t ht b len cap i w hl hi hb hc
  clear hc ht
  go_enter Try.func10, Try.ntmps10
  go_wp2_with fail
  refine H.mono ?_
  rintro e w' ⟨rfl, hbel⟩
  unfold ansN
  go_wp2_with fail
  go_ret2
  exact ⟨rfl, hbel⟩

set_option maxRecDepth 100000 in
set_option maxHeartbeats 2000000 in
theorem law3_out (a0 : Option Addr) (len cap : Nat) (a1 : Int) (hl : len ≤ maxLen) (hout : ¬ (len ≤ 1048576 ∧ 0 ≤ a1 ∧ a1 < len)) (w : World) :
    Calls Try.prog 3 #[.slice a0 len cap, .int .i64 a1] w fun e w' => e = .returned (.bool true) ∧ Below w.heap.size w w' := by
  have H := bytes9_any a0 len cap a1 hl w
  unfold maxLen at hl
  go_enter Try.func3, Try.ntmps3
  go_wp2_with fail
  refine H.mono ?_
  rintro e w' ⟨r, rfl, rfl, _⟩
  cases r
  · go_wp2_with fail
    go_ret
    exact ⟨rfl, Below.refl _ _⟩
  · by_cases h1 : len ≤ 1048576
    · by_cases h2 : a1 < 0
      · go_wp2_with fail
        go_ret
        exact ⟨rfl, Below.refl _ _⟩
      · have h3 : (len : Int) ≤ a1 := by omega
        clear hout
        go_wp2_with fail
        go_ret
        exact ⟨rfl, Below.refl _ _⟩
    · go_wp2_with fail
      go_ret
      exact ⟨rfl, Below.refl _ _⟩

set_option maxRecDepth 100000 in
set_option maxHeartbeats 2000000 in
theorem law3_in (b off len cap : Nat) (a1 : Int) (t : Nat → Int) (ht : ∀ k, 0 ≤ t k ∧ t k ≤ 255) (hl : len ≤ 1048576) (h0 : 0 ≤ a1) (h1 : a1 < len) (w : World) (hb : b < w.heap.size)
    (hc : ∀ k, k < len → w.cell? ⟨b, off + k, none⟩ = some (.int .u8 (t k))) :
    Calls Try.prog 3 #[.slice (some ⟨b, off, none⟩) len cap, .int .i64 a1] w fun e w' => e = .returned (.bool true) ∧ Below w.heap.size w w' := by
  have H := bytes9_any (some ⟨b, off, none⟩) len cap a1 (by unfold maxLen; omega) w
  have HC : Hid (∀ k, k < len → w.cell? ⟨b, off + k, none⟩ = some (.int .u8 (t k))) := hc
  have HT : Hid (∀ k, 0 ≤ t k ∧ t k ≤ 255) := ht
  clear hc ht
  go_enter Try.func3, Try.ntmps3
  go_wp2_with fail
  refine H.mono ?_
  rintro e w' ⟨r, rfl, rfl, hr⟩
  obtain rfl := hr hl
  clear hr
  go_wp2_with (first | (at_make; refine makeFull_law rfl _ _ rfl _ _ _ len rfl rfl rfl rfl (by omega) ?_; intro wm hm) | (refine copy_law rfl _ _ rfl w' _ len cap b off t rfl rfl (by assumption) hb HC.out ?_; intro wf hf hbf hsf))
  obtain ⟨i, rfl⟩ := Int.eq_ofNat_of_zero_le h0
  have H1 := ZZvalidNumber3_any t HT.out w'.heap.size len len i i rfl wf (by unfold maxLen; omega) (by omega) hsf hf
  have H2 : Hid (∀ wy, Below wf.heap.size wf wy → Calls Try.prog 11 #[.slice (some ⟨w'.heap.size, 0, none⟩) len len, .int .i64 i] wy fun e wz => e = .returned (ansN (nm t len 0 i)) ∧ wz = wy) := by
    intro wy hwy
    refine numberModel_any t HT.out w'.heap.size len len i i rfl wy (by unfold maxLen; omega) (by omega) ?_
    intro k hk
    rw [hwy.cell (p := ⟨w'.heap.size, k, none⟩) hsf]
    exact hf k hk
  rw [nm_vnum i (by omega)] at H2
  generalize vnum t len i = o at H1 H2
  clear hf
  have HB : Hid (Below w'.heap.size w' wf) := hbf
  clear hbf
  obtain ⟨a, k, ha⟩ : ∃ (a : Int) (k : Bool), ansN o = .tuple #[.int .i64 a, .bool k] := ⟨_, _, rfl⟩
  rw [ha] at H1 H2
  clear ha
  refine H1.mono ?_
  rintro e wx ⟨rfl, hbx⟩
  have H3 := H2.out wx hbx
  have HX : Hid (Below w'.heap.size w' wx) := HB.out.trans (hbx.mono HB.out.size)
  clear H1 H2 hbx HB
  go_wp2_with fail
  refine H3.mono ?_
  rintro e2 wy ⟨rfl, rfl⟩
  go_wp2_with fail
  go_ret
  exact ⟨rfl, HX.out⟩

end Go.Proofs.Qxb6605207a
