/-
  The walk of FnValidItemsNestingLimit.
-/
import Derived.Test.Qxb6605207aTower
import Derived.Test.Qxb6605207aOwn
namespace Go.Proofs.Qxb6605207a
open Go.RowKit
set_option linter.unusedVariables false

/-- 'make([]byte, 0, n)'. -/
theorem make_law8 {ops : Array Oper} {rest : List Oper} {o : Oper} {a : Act} {Q : Exit → Act → World → Prop} (hgd : o.guard = none) (l c : Operand)
    (ho : o.op = .makeSlice 22 l c) (w : World) (C : Int) (n : Nat) (hl : a.eval l = .int .i64 0) (hc : a.eval c = .int .i64 C) (hC : C = n) (hn : n ≤ 1000000000)
    (h : ∀ v' w', Own w.heap.size w w' v' [] → wpList Try.prog ops Q rest (a.put o.dst v') w') : wpList Try.prog ops Q (o :: rest) a w := by
  obtain ⟨i0, hi, hz0, hz1, hz2⟩ := info_parts Try.info5
  refine wpList_make_own w hgd l c 22 ho w.heap.size 5 i0 (.int .u8 0) 1 Try.underlying22 hi hz0 hz1 .i64 .i64 C n hl hc hC (by rw [hz2]; omega) (by unfold maxLen; omega) (Nat.le_refl _) ?_
  intro w' h1 h2
  exact h _ w' ⟨h1, (Below.refl _ _).grown h2 (Nat.le_refl _) (by simp), h2.size⟩

theorem ZZvalidItems_any (b len cap : Nat) (x d : Int) (o : Option Nat) (w : World)
    (H : Calls Try.prog 28 #[.slice (some ⟨b, 0, none⟩) len cap, .int .i64 x, .int .i64 d] w fun e w' => e = .returned (ansI o) ∧ w' = w) :
    Calls Try.prog 20 #[.slice (some ⟨b, 0, none⟩) len cap, .int .i64 x, .int .i64 d] w fun e w' => e = .returned (ansI o) ∧ w' = w := by
  unfold ansI at *
  go_enter Try.func20, Try.ntmps20
  go_wp2_with fail
  refine H.mono ?_
  rintro e w' ⟨rfl, rfl⟩
  go_wp2_with fail
  go_ret2
  exact ⟨rfl, rfl⟩

/-- No level: true at once. -/
theorem law8_zero (d : Int) (ob : Bool) (w : World) :
    Calls Try.prog 8 #[.int .u16 0, .int .i64 d, .bool ob] w fun e w' => e = .returned (.bool true) ∧ Below w.heap.size w w' := by
  go_enter Try.func8, Try.ntmps8
  go_wp2_with fail
  go_ret
  exact ⟨rfl, Below.refl _ _⟩

theorem tt_bytes {M : List Int} (h : ∀ x ∈ M, 0 ≤ x ∧ x ≤ 255) (k : Nat) : 0 ≤ tt M k ∧ tt M k ≤ 255 := by
  unfold tt
  by_cases hk : k < M.length
  · rw [List.getD_eq_getElem?_getD, List.getElem?_eq_getElem hk]
    exact h _ (List.getElem_mem hk)
  · rw [List.getD_eq_getElem?_getD, List.getElem?_eq_none (by omega)]
    simp

set_option maxRecDepth 100000 in
set_option maxHeartbeats 4000000 in
theorem law8_some (m : Nat) (hm : m ≤ 65534) (d : Int) (hd0 : -9223372036854775808 ≤ d) (hd1 : d ≤ 9223372036854775807) (ob : Bool) (w : World) :
    Calls Try.prog 8 #[.int .u16 ((m : Int) + 1), .int .i64 d, .bool ob] w fun e w' => e = .returned (.bool true) ∧ Below w.heap.size w w' := by
  generalize hB : w.heap.size = B at *
  have HB : Hid (w.heap.size = B) := hB
  clear hB
  have hz : ((m : Int) + 1 == 0) = false := by simp; omega
  go_enter Try.func8, Try.ntmps8
  go_wp2_with (at_make; refine make_law8 rfl _ _ rfl _ _ (5 * (m + 1) + 2) rfl rfl (by omega) (by omega) ?_; intro v1 w1 hown1)
  rw [HB.out] at hown1
  go_loopw [8, 9] (fun v i wc => ∃ k : Nat, k ≤ m ∧ i = .int .i64 k ∧ Own B w wc v (ups ob k)) (fun _ i _ => m - (intOf i).toNat)
  case atStart => exact ⟨0, by omega, rfl, hown1⟩
  case round =>
    clear hown1
    obtain ⟨k, hk, rfl, hown⟩ := hrel
    by_cases hlt : k < m
    · have hul := ups_len ob k
      generalize hU : ups ob k = U at *
      have HU : Hid (ups ob k = U) := hU
      clear hU
      cases ob
      · go_wp2_with (at_builtin; refine app_law rfl _ _ rfl B w _ u8 U [_] _ rfl 1 rfl rfl hown rfl (by omega) ?_; intro v2 w2 hown2)
        go_roundw
        case rel => exact ⟨k + 1, by omega, by go_num, by rw [ups, HU.out]; exact hown2⟩
        case measure => simp [intOf]; omega
      · go_wp2_with (at_builtin; refine app_law rfl _ _ rfl B w _ u8 U [_, _, _, _] _ rfl 4 rfl rfl hown rfl (by omega) ?_; intro v2 w2 hown2)
        go_roundw
        case rel => exact ⟨k + 1, by omega, by go_num, by rw [ups, HU.out]; exact hown2⟩
        case measure => simp [intOf]; omega
    · have ek : k = m := by omega
      subst ek
      go_upto_if 35 with fail
      have hul := ups_len ob k
      generalize hU : ups ob k = U at *
      have HU : Hid (ups ob k = U) := hU
      clear hU
      go_cut [8] (fun v wc => Own B w wc v (U ++ cor ob))
      case first =>
        cases ob
        · go_wp2_with (at_builtin; refine app_law rfl _ _ rfl B w _ u8 U [_, _] _ rfl 2 rfl rfl hown rfl (by omega) ?_; intro v2 w2 hown2)
          go_meet
          exact hown2
        · go_wp2_with (at_builtin; refine app_law rfl _ _ rfl B w _ u8 U [_, _] _ rfl 2 rfl rfl hown rfl (by omega) ?_; intro v2 w2 hown2)
          go_meet
          exact hown2
      case rest =>
        clear hown
        have HC : Hid (Own B w wc u8 (U ++ cor ob)) := hcut
        clear hcut
        go_wp2_with fail
        go_loopw [8, 10] (fun v i wc => ∃ j : Nat, j ≤ k ∧ i = .int .i64 j ∧ Own B w wc v (U ++ cor ob ++ dns ob j)) (fun _ i _ => k - (intOf i).toNat)
        case atStart => exact ⟨0, by omega, rfl, by simpa [dns] using HC.out⟩
        case round =>
          clear HC
          obtain ⟨j, hj, rfl, hown⟩ := hrel
          have hvl : (U ++ cor ob ++ dns ob j).length ≤ 400000 := by
            have := dns_len ob j
            simp [cor_len]; omega
          generalize hV : U ++ cor ob ++ dns ob j = V at *
          have HV : Hid (U ++ cor ob ++ dns ob j = V) := hV
          clear hV
          by_cases hlt : j < k
          · cases ob
            · go_wp2_with (at_builtin; refine app_law rfl _ _ rfl B w _ u8 V [_] _ rfl 1 rfl rfl hown rfl (by omega) ?_; intro v2 w2 hown2)
              go_roundw
              case rel => exact ⟨j + 1, by omega, by go_num, by rw [dns, ← List.append_assoc, HV.out]; exact hown2⟩
              case measure => simp [intOf]; omega
            · go_wp2_with (at_builtin; refine app_law rfl _ _ rfl B w _ u8 V [_] _ rfl 1 rfl rfl hown rfl (by omega) ?_; intro v2 w2 hown2)
              go_roundw
              case rel => exact ⟨j + 1, by omega, by go_num, by rw [dns, ← List.append_assoc, HV.out]; exact hown2⟩
              case measure => simp [intOf]; omega
          · have ej : j = k := by omega
            subst ej
            have HVt : Hid (V = twr ob j) := by rw [Hid, ← HV.out, ← HU.out, List.append_assoc, tower_eq]
            have hne : V ≠ [] := by
              obtain ⟨r, hr⟩ := twr_head ob j
              rw [HVt.out, hr]; simp
            obtain ⟨g, cp, hv, hcp, hcpm, hg, hgs, _⟩ := hown.shape hne
            clear hne
            subst hv
            go_upto_region 22 with (at_builtin; refine app_law rfl _ _ rfl B w _ (.slice (some ⟨g, 0, none⟩) V.length cp) V [_, _] _ rfl 2 rfl rfl hown rfl (by omega) ?_; intro v3 w3 hown3)
            have hlen3 : (V ++ [32, 44]).length = V.length + 2 := by simp
            obtain ⟨g3, cp3, hv3, hcp3, hcpm3, hg3, hgs3, hc3⟩ := hown3.shape (by simp)
            subst hv3
            have hbytes : ∀ x ∈ V ++ [32, 44], 0 ≤ x ∧ x ≤ 255 := by
              intro x hx
              rw [List.mem_append] at hx
              rcases hx with h | h
              · rw [HVt.out] at h; exact twr_bytes ob j x h
              · simp at h; omega
            have H := tower_calls ob (V ++ [32, 44]) (tt_bytes hbytes) g3 cp3 (by omega) hcp3 w3 hc3 j [] [32, 44] (by rw [HVt.out]; rfl) 0 d rfl hd0
            rw [List.nil_append, ← HVt.out, hlen3] at H
            have H2 := ZZvalidItems_any _ _ _ _ _ _ _ H
            have HBel := hown3.bel
            have HB2 : Hid (Below B w w3) := HBel
            clear H hc3 hbytes hown3 hown HBel
            by_cases hd : d + (j : Int) ≤ 10000
            · rw [if_pos hd] at H2
              unfold ansI at H2
              go_wp2_with fail
              refine H2.mono ?_
              rintro e w4 ⟨rfl, rfl⟩
              go_wp2_with fail
              go_ret
              exact ⟨rfl, HB2.out⟩
            · rw [if_neg hd] at H2
              unfold ansI at H2
              go_wp2_with fail
              refine H2.mono ?_
              rintro e w4 ⟨rfl, rfl⟩
              go_wp2_with fail
              go_ret
              exact ⟨rfl, HB2.out⟩

end Go.Proofs.Qxb6605207a
