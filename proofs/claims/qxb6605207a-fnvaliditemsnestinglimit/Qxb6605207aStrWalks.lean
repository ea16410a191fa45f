/-
  The walks of zzStringModel and of validString: both come to 'sm'.
-/
import Derived.Test.Qxb6605207aRows
import Derived.Test.Qxb6605207aPlainStr
import Derived.WalkKit
import Derived.WalkSpells
import Derived.WalkLawsBesides
import Derived.Deep.DeepCutAuto
import Derived.Deep.CutBlock
import Derived.Deep.Light
namespace Go.Proofs.Qxb6605207a
open Go.RowKit
set_option linter.unusedVariables false

theorem ret_bool {a b : Bool} (h : a = b) : Ending.returned (.bool a) = .returned (.bool b) := by rw [h]

set_option maxHeartbeats 1000000 in
theorem short_any (x : Int) (h0 : 0 ≤ x) (h1 : x ≤ 255) (w : World) :
    Calls Try.prog 26 #[.int .u8 x] w fun e w' => e = .returned (.bool (shortB x)) ∧ w' = w := by
  go_enter Try.func26, Try.ntmps26
  go_wp2
  all_goals go_ret
  all_goals refine ⟨ret_bool ?_, rfl⟩
  all_goals (rw [Bool.eq_iff_iff]; simp [shortB] <;> omega)

set_option maxHeartbeats 1000000 in
theorem hex_any (x : Int) (h0 : 0 ≤ x) (h1 : x ≤ 255) (w : World) :
    Calls Try.prog 27 #[.int .u8 x] w fun e w' => e = .returned (.bool (hexB x)) ∧ w' = w := by
  go_enter Try.func27, Try.ntmps27
  go_wp2
  all_goals go_ret
  all_goals refine ⟨ret_bool ?_, rfl⟩
  all_goals (rw [Bool.eq_iff_iff]; simp [hexB] <;> omega)

/-- What both hand back. -/
def ansS (o : Option (Nat × Bool)) : Value := .tuple #[.int .i64 (((o.map (·.1)).getD 0 : Nat) : Int), .bool ((o.map (·.2)).getD false), .bool o.isSome]

set_option maxRecDepth 100000 in
set_option maxHeartbeats 2000000 in
theorem stringModel_any (t : Nat → Int) (ht : ∀ k, 0 ≤ t k ∧ t k ≤ 255) (b len cap : Nat) (x : Int) (i : Nat) (hx : x = i) (w : World) (hl : len ≤ maxLen) (hi : i < len)
    (hc : ∀ k, k < len → w.cell? ⟨b, k, none⟩ = some (.int .u8 (t k))) :
    Calls Try.prog 16 #[.slice (some ⟨b, 0, none⟩) len cap, .int .i64 x] w fun e w' => e = .returned (ansS (sm t len 0 false (i + 1))) ∧ w' = w := by
  subst hx
  unfold maxLen at hl
  have HC : Hid (∀ k, k < len → w.cell? ⟨b, k, none⟩ = some (.int .u8 (t k))) := hc
  have HT : Hid (∀ k, 0 ≤ t k ∧ t k ≤ 255) := ht
  clear hc ht
  go_enter Try.func16, Try.ntmps16
  go_wp2_with fail
  go_loop [7, 8, 9] (fun a e q => ∃ (st p : Nat) (esc : Bool), st ≤ 5 ∧ p ≤ len ∧ a = .int .i64 st ∧ e = .bool esc ∧ q = .int .i64 p ∧ Hid (sm t len 0 false (i + 1) = sm t len st esc p)) (fun _ _ q => len - (intOf q).toNat)
  case atStart => exact ⟨0, i + 1, false, by omega, by omega, rfl, rfl, by go_num, rfl⟩
  case round =>
    obtain ⟨st, p, esc, hst, hp, rfl, rfl, rfl, HS⟩ := hrel
    by_cases hlt : p < len
    · have hcp := HC.out p hlt
      have htp := HT.out p
      generalize hx : t p = x at *
      have HX : Hid (t p = x) := hx
      clear hx
      obtain ⟨htp0, htp1⟩ := htp
      by_cases h0 : st = 0
      · subst h0
        by_cases h1 : x = 34
        · have HF : Hid (sm t len 0 false (i + 1) = some (p + 1, esc)) := by rw [Hid, HS.out, sm0_quote hlt (by rw [HX.out, h1])]
          go_wp2_with fail
          go_ret3
          rw [HF.out]
          exact ⟨rfl, rfl⟩
        · by_cases h2 : x < 32
          · have HF : Hid (sm t len 0 false (i + 1) = none) := by rw [Hid, HS.out, sm0_low hlt (by rw [HX.out]; exact h2)]
            go_wp2_with fail
            go_ret3
            rw [HF.out]
            exact ⟨rfl, rfl⟩
          · by_cases h3 : x = 92
            · have HF : Hid (sm t len 0 false (i + 1) = sm t len 1 true (p + 1)) := by rw [Hid, HS.out, sm0_back hlt (by rw [HX.out, h3])]
              go_wp2_with fail
              go_round
              case rel => exact ⟨1, p + 1, true, by omega, by omega, rfl, rfl, by go_num, HF⟩
              case measure => simp [intOf]; omega
            · have HF : Hid (sm t len 0 false (i + 1) = sm t len 0 esc (p + 1)) := by rw [Hid, HS.out, sm0_plain hlt (by rw [HX.out]; exact h1) (by rw [HX.out]; omega) (by rw [HX.out]; exact h3)]
              go_wp2_with fail
              go_round
              case rel => exact ⟨0, p + 1, esc, by omega, by omega, rfl, rfl, by go_num, HF⟩
              case measure => simp [intOf]; omega
      · by_cases h1 : st = 1
        · subst h1
          by_cases h2 : x = 117
          · have HF : Hid (sm t len 0 false (i + 1) = sm t len 2 esc (p + 1)) := by rw [Hid, HS.out, sm1_u hlt (by rw [HX.out, h2])]
            go_wp2_with fail
            go_round
            case rel => exact ⟨2, p + 1, esc, by omega, by omega, rfl, rfl, by go_num, HF⟩
            case measure => simp [intOf]; omega
          · cases h3 : shortB x
            · have HF : Hid (sm t len 0 false (i + 1) = none) := by rw [Hid, HS.out, sm1_bad hlt (by rw [HX.out]; exact h2) (by rw [HX.out]; exact h3)]
              go_wp2_with (go_at_call 26; refine (short_any x htp0 htp1 _).mono ?_; rintro e w' ⟨rfl, rfl⟩)
              go_ret3
              rw [HF.out]
              exact ⟨rfl, rfl⟩
            · have HF : Hid (sm t len 0 false (i + 1) = sm t len 0 esc (p + 1)) := by rw [Hid, HS.out, sm1_short hlt (by rw [HX.out]; exact h2) (by rw [HX.out]; exact h3)]
              go_wp2_with (go_at_call 26; refine (short_any x htp0 htp1 _).mono ?_; rintro e w' ⟨rfl, rfl⟩)
              go_round
              case rel => exact ⟨0, p + 1, esc, by omega, by omega, rfl, rfl, by go_num, HF⟩
              case measure => simp [intOf]; omega
        · have g0 : ((st : Int) == 0) = false := by simp; omega
          have g1 : ((st : Int) == 1) = false := by simp; omega
          cases h3 : hexB x
          · have HF : Hid (sm t len 0 false (i + 1) = none) := by rw [Hid, HS.out, smh_bad hlt (by omega) (by rw [HX.out]; exact h3)]
            go_wp2_with (go_at_call 27; refine (hex_any x htp0 htp1 _).mono ?_; rintro e w' ⟨rfl, rfl⟩)
            go_ret3
            rw [HF.out]
            exact ⟨rfl, rfl⟩
          · by_cases h5 : st = 5
            · subst h5
              have HF : Hid (sm t len 0 false (i + 1) = sm t len 0 esc (p + 1)) := by rw [Hid, HS.out, smh_last hlt (by rw [HX.out]; exact h3)]
              go_wp2_with (go_at_call 27; refine (hex_any x htp0 htp1 _).mono ?_; rintro e w' ⟨rfl, rfl⟩)
              go_round
              case rel => exact ⟨0, p + 1, esc, by omega, by omega, rfl, rfl, by go_num, HF⟩
              case measure => simp [intOf]; omega
            · have g5 : ((st : Int) == 5) = false := by simp; omega
              have HF : Hid (sm t len 0 false (i + 1) = sm t len (st + 1) esc (p + 1)) := by rw [Hid, HS.out, smh_next hlt (by omega) h5 (by rw [HX.out]; exact h3)]
              go_wp2_with (go_at_call 27; refine (hex_any x htp0 htp1 _).mono ?_; rintro e w' ⟨rfl, rfl⟩)
              go_round
              case rel => exact ⟨st + 1, p + 1, esc, by omega, by omega, by go_num, rfl, by go_num, HF⟩
              case measure => simp [intOf]; omega
    · have HF : Hid (sm t len 0 false (i + 1) = none) := by rw [Hid, HS.out, sm_end _ _ _ _ _ (by omega)]
      go_wp2_with fail
      go_ret3
      rw [HF.out]
      exact ⟨rfl, rfl⟩

end Go.Proofs.Qxb6605207a
