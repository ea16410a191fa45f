/-
  The walk of validString.
-/
import Derived.Test.Qxb6605207aStrWalks
namespace Go.Proofs.Qxb6605207a
open Go.RowKit
set_option linter.unusedVariables false

theorem Try.info5' : (Try.prog.info? 5).map (fun i => (i.zero, i.size, i.bytes)) = some (some (.int .u8 0), 1, 1) := by kernel_rfl
theorem Try.elem22 : Try.prog.elem 22 = 5 := by kernel_rfl
theorem Try.size5' (W : World) : (sizeOf 5).run Try.prog W = .ok 1 W := by
  obtain ⟨i0, hi, hz0, hz1, hz2⟩ := info_parts Try.info5'
  simp [sizeOf, typeInfo, hi, hz1]

theorem run_four (b len cap p : Nat) (h : p + 1 + 4 < len) (hcap : len ≤ cap) (W : World) :
    (Instr.slice 22 (.slice (some ⟨b, 0, none⟩) len cap) (some (.int .i64 ((p : Int) + 1 + 1))) (some (.int .i64 ((p : Int) + 1 + 5))) none).run Try.prog W = .ok (.slice (some ⟨b, p + 2, none⟩) 4 (cap - (p + 2))) W := by
  rw [run_slice_lh W 22 (some ⟨b, 0, none⟩) len cap (by rw [Try.elem22]; exact Try.underlying22) .i64 .i64 ((p : Int) + 1 + 1) ((p : Int) + 1 + 5) (by omega) (by omega) (by omega)]
  rw [Try.elem22, Try.size5']
  have e1 : ((p : Int) + 1 + 1).toNat = p + 2 := by omega
  have e2 : ((p : Int) + 1 + 5).toNat = p + 6 := by omega
  have e3 : p + 6 - (p + 2) = 4 := by omega
  simp only [Result.andThen, sliced, e1, e2, e3]
  rw [if_neg (by omega)]
  simp [Go.WideShapes.add_plain]

set_option maxRecDepth 100000 in
set_option maxHeartbeats 4000000 in
theorem validString_any (t : Nat → Int) (ht : ∀ k, 0 ≤ t k ∧ t k ≤ 255) (b len cap : Nat) (x : Int) (i : Nat) (hx : x = i) (w : World) (hl : len ≤ 1000000000) (hcap : len ≤ cap) (hi : i < len)
    (hc : ∀ k, k < len → w.cell? ⟨b, k, none⟩ = some (.int .u8 (t k))) :
    Calls Try.prog 25 #[.slice (some ⟨b, 0, none⟩) len cap, .int .i64 x] w fun e w' => e = .returned (ansS (sm t len 0 false (i + 1))) ∧ w' = w := by
  subst hx
  have HC : Hid (∀ k, k < len → w.cell? ⟨b, k, none⟩ = some (.int .u8 (t k))) := hc
  have HT : Hid (∀ k, 0 ≤ t k ∧ t k ≤ 255) := ht
  clear hc ht
  go_enter Try.func25, Try.ntmps25
  go_wp2_with fail
  go_loop [1, 5] (fun q e => ∃ (p : Nat) (esc : Bool), p ≤ len ∧ e = .bool esc ∧ q = .int .i64 p ∧ Hid (sm t len 0 false (i + 1) = sm t len 0 esc p)) (fun q _ => len - (intOf q).toNat)
  case atStart => exact ⟨i + 1, false, by omega, rfl, by go_num, rfl⟩
  case round =>
    obtain ⟨p, esc, hp, rfl, rfl, HS⟩ := hrel
    by_cases hlt : p < len
    · have hcp := HC.out p hlt
      obtain ⟨htp0, htp1⟩ := HT.out p
      generalize hx : t p = x at *
      have HX : Hid (t p = x) := hx
      clear hx
      by_cases h1 : x = 34
      · have HF : Hid (sm t len 0 false (i + 1) = some (p + 1, esc)) := by rw [Hid, HS.out, sm0_quote hlt (by rw [HX.out, h1])]
        go_wp2_with fail
        go_ret3
        rw [HF.out]
        exact ⟨rfl, rfl⟩
      · by_cases h2 : x < 32
        · have HF : Hid (sm t len 0 false (i + 1) = none) := by rw [Hid, HS.out, sm0_low hlt (by rw [HX.out]; exact h2)]
          go_wp2_with fail
          go_ret3
          rw [HF.out]
          exact ⟨rfl, rfl⟩
        · by_cases h3 : x = 92
          · have HF : Hid (sm t len 0 false (i + 1) = sm t len 1 true (p + 1)) := by rw [Hid, HS.out, sm0_back hlt (by rw [HX.out, h3])]
            by_cases hl2 : p + 1 < len
            · have hcq := HC.out (p + 1) hl2
              obtain ⟨htq0, htq1⟩ := HT.out (p + 1)
              generalize hy : t (p + 1) = y at *
              have HY : Hid (t (p + 1) = y) := hy
              clear hy
              by_cases hu : y = 117
              · have HG : Hid (sm t len 0 false (i + 1) = sm t len 2 true (p + 2)) := by rw [Hid, HF.out, sm1_u hl2 (by rw [HY.out, hu])]
                by_cases hr : p + 1 + 4 < len
                · have hfour := run_four b len cap p hr hcap
                  go_wp2_with fail
                  clear hfour
                  go_loop [5, 67] (fun e q => ∃ k : Nat, k ≤ 4 ∧ e = .bool true ∧ q = .int .i64 k ∧ Hid (∀ j, j < k → hexB (t (p + 2 + j)) = true)) (fun _ q => 4 - (intOf q).toNat)
                  case atStart => exact ⟨0, by omega, rfl, rfl, fun j hj => by omega⟩
                  case round =>
                    obtain ⟨k, hk, rfl, rfl, HK⟩ := hrel
                    by_cases hk4 : k < 4
                    · have hcz := HC.out (p + 2 + k) (by omega)
                      obtain ⟨htz0, htz1⟩ := HT.out (p + 2 + k)
                      generalize hz : t (p + 2 + k) = z at *
                      have HZ : Hid (t (p + 2 + k) = z) := hz
                      clear hz
                      cases hh : hexB z
                      · have HN : Hid (sm t len 0 false (i + 1) = none) := by rw [Hid, HG.out, sm_hex_bad t len true (p + 2) k (by omega) (by omega) HK.out (by rw [HZ.out]; exact hh)]
                        simp only [hexB, decide_eq_false_iff_not, not_or] at hh
                        have hg : z < 48 ∨ (57 < z ∧ z < 65) ∨ (70 < z ∧ z < 97) ∨ 102 < z := by omega
                        clear hh
                        rcases hg with s1 | ⟨s1, s2⟩ | ⟨s1, s2⟩ | s1
                        all_goals go_wp2_with fail
                        all_goals first
                          | (go_ret3; rw [HN.out]; exact ⟨rfl, rfl⟩)
                          | (exfalso; rename_i hbad; simp at hbad; omega)
                      · have HN : Hid (∀ j, j < k + 1 → hexB (t (p + 2 + j)) = true) := by
                          intro j hj
                          by_cases e : j = k
                          · rw [e, HZ.out]; exact hh
                          · exact HK.out j (by omega)
                        simp only [hexB, decide_eq_true_eq] at hh
                        rcases hh with ⟨s1, s2⟩ | ⟨s1, s2⟩ | ⟨s1, s2⟩
                        all_goals
                          go_wp2_with fail
                          go_round
                          case rel => exact ⟨k + 1, by omega, rfl, by go_num, HN⟩
                          case measure => simp [intOf]; omega
                    · have ek : k = 4 := by omega
                      subst ek
                      have HN : Hid (sm t len 0 false (i + 1) = sm t len 0 true (p + 2 + 4)) := by rw [Hid, HG.out, sm_hex_all t len true (p + 2) (by omega) HK.out]
                      go_wp2_with fail
                      go_round
                      case rel => exact ⟨p + 2 + 4, true, by omega, rfl, by go_num, HN⟩
                      case measure => simp [intOf]; omega
                · have HN : Hid (sm t len 0 false (i + 1) = none) := by rw [Hid, HG.out, sm_hex_short _ _ _ _ (by omega)]
                  go_wp2_with fail
                  go_ret3
                  rw [HN.out]
                  exact ⟨rfl, rfl⟩
              · cases hs : shortB y
                · have HN : Hid (sm t len 0 false (i + 1) = none) := by rw [Hid, HF.out, sm1_bad hl2 (by rw [HY.out]; exact hu) (by rw [HY.out]; exact hs)]
                  simp only [shortB, decide_eq_false_iff_not, not_or] at hs
                  obtain ⟨s1, s2, s3, s4, s5, s6, s7, s8⟩ := hs
                  go_wp2_with fail
                  go_ret3
                  rw [HN.out]
                  exact ⟨rfl, rfl⟩
                · have HN : Hid (sm t len 0 false (i + 1) = sm t len 0 true (p + 2)) := by rw [Hid, HF.out, sm1_short hl2 (by rw [HY.out]; exact hu) (by rw [HY.out]; exact hs)]
                  simp only [shortB, decide_eq_true_eq] at hs
                  rcases hs with hs | hs | hs | hs | hs | hs | hs | hs
                  all_goals
                    go_wp2_with fail
                    go_round
                    case rel => exact ⟨p + 2, true, by omega, rfl, by go_num, HN⟩
                    case measure => simp [intOf]; omega
            · have HN : Hid (sm t len 0 false (i + 1) = none) := by rw [Hid, HF.out, sm_end _ _ _ _ _ (by omega)]
              go_wp2_with fail
              go_ret3
              rw [HN.out]
              exact ⟨rfl, rfl⟩
          · have HF : Hid (sm t len 0 false (i + 1) = sm t len 0 esc (p + 1)) := by rw [Hid, HS.out, sm0_plain hlt (by rw [HX.out]; exact h1) (by rw [HX.out]; omega) (by rw [HX.out]; exact h3)]
            go_wp2_with fail
            go_round
            case rel => exact ⟨p + 1, esc, by omega, rfl, by go_num, HF⟩
            case measure => simp [intOf]; omega
    · have HF : Hid (sm t len 0 false (i + 1) = none) := by rw [Hid, HS.out, sm_end _ _ _ _ _ (by omega)]
      go_wp2_with fail
      go_ret3
      rw [HF.out]
      exact ⟨rfl, rfl⟩

end Go.Proofs.Qxb6605207a
