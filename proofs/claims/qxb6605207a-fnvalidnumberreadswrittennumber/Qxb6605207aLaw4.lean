/-
  The walk of FnValidNumberReadsWrittenNumber.
-/
import Derived.Test.Qxb6605207aNumWalks
import Derived.Test.Qxb6605207aOwn
import Derived.Test.Qxb6605207aPlainNum
namespace Go.Proofs.Qxb6605207a
open Go.RowKit
set_option linter.unusedVariables false

/-- The bound on the lengths: a bool, and true where both are short. -/
theorem bytes12_any (a0 : Bool) (a1 : Int) (a2 a3 : ByteArray) (a4 a5 : Int) (h2 : a2.size ≤ maxLen) (h3 : a3.size ≤ maxLen) (w : World) :
    Calls Try.prog 12 #[.bool a0, .int .u64 a1, .string a2, .string a3, .int .u8 a4, .int .u8 a5] w fun e w' => ∃ r : Bool, e = .returned (.bool r) ∧ w' = w ∧ (a2.size ≤ 65536 → a3.size ≤ 65536 → r = true) := by
  unfold maxLen at h2 h3
  go_enter Try.func12, Try.ntmps12
  go_wp2
  all_goals
    go_ret
    exact ⟨_, rfl, rfl, by intros; first | rfl | omega⟩

theorem ZZvalidNumber_any (t : Nat → Int) (ht : ∀ k, 0 ≤ t k ∧ t k ≤ 255) (b len cap : Nat) (x : Int) (i : Nat) (hx : x = i) (w : World) (hl : len ≤ maxLen) (hi : i < len) (hb : b < w.heap.size)
    (hc : ∀ k, k < len → w.cell? ⟨b, k, none⟩ = some (.int .u8 (t k))) :
    Calls Try.prog 10 #[.slice (some ⟨b, 0, none⟩) len cap, .int .i64 x] w fun e w' => e = .returned (ansN (vnum t len i)) ∧ Below w.heap.size w w' := by
  subst hx
  have H := validNumber_any t ht b len cap i w hl hi hb hc
  clear hc ht
  go_enter Try.func10, Try.ntmps10
  go_wp2_with fail
  refine H.mono ?_
  rintro e w' ⟨rfl, hbel⟩
  unfold ansN
  go_wp2_with fail
  go_ret2
  exact ⟨rfl, hbel⟩

/-- 'make([]byte, 0, n)'. -/
theorem make_law {ops : Array Oper} {rest : List Oper} {o : Oper} {a : Act} {Q : Exit → Act → World → Prop} (hgd : o.guard = none) (l c : Operand)
    (ho : o.op = .makeSlice 22 l c) (w : World) (C : Int) (n : Nat) (hl : a.eval l = .int .i64 0) (hc : a.eval c = .int .i64 C) (hC : C = n) (hn : n ≤ 1000000000)
    (h : ∀ v' w', Own w.heap.size w w' v' [] → wpList Try.prog ops Q rest (a.put o.dst v') w') : wpList Try.prog ops Q (o :: rest) a w := by
  obtain ⟨i0, hi, hz0, hz1, hz2⟩ := info_parts Try.info5
  refine wpList_make_own w hgd l c 22 ho w.heap.size 5 i0 (.int .u8 0) 1 Try.underlying22 hi hz0 hz1 .i64 .i64 C n hl hc hC (by rw [hz2]; omega) (by unfold maxLen; omega) (Nat.le_refl _) ?_
  intro w' h1 h2
  exact h _ w' ⟨h1, (Below.refl _ _).grown h2 (Nat.le_refl _) (by simp), h2.size⟩

set_option maxRecDepth 100000 in
set_option maxHeartbeats 4000000 in
theorem law4_long (a0 : Bool) (a1 : Int) (a2 a3 : ByteArray) (a4 a5 : Int) (h2 : a2.size ≤ maxLen) (h3 : a3.size ≤ maxLen) (hlong : ¬ (a2.size ≤ 65536 ∧ a3.size ≤ 65536)) (w : World) :
    Calls Try.prog 4 #[.bool a0, .int .u64 a1, .string a2, .string a3, .int .u8 a4, .int .u8 a5] w fun e w' => e = .returned (.bool true) ∧ Below w.heap.size w w' := by
  have H := bytes12_any a0 a1 a2 a3 a4 a5 h2 h3 w
  unfold maxLen at h2 h3
  go_enter Try.func4, Try.ntmps4
  go_wp2_with fail
  refine H.mono ?_
  rintro e w' ⟨r, rfl, rfl, _⟩
  cases r
  · go_wp2_with fail
    go_ret
    exact ⟨rfl, Below.refl _ _⟩
  · by_cases hs : a2.size ≤ 65536
    · have hs3 : ¬ a3.size ≤ 65536 := fun h => hlong ⟨hs, h⟩
      go_wp2_with fail
      go_ret
      exact ⟨rfl, Below.refl _ _⟩
    · go_wp2_with fail
      go_ret
      exact ⟨rfl, Below.refl _ _⟩

theorem bounded {S D F E T : List Int} (hS : S = [] ∨ S = [45]) (hD : ∀ d ∈ D, 48 ≤ d ∧ d ≤ 57) (hF : IsFrac F) (hE : IsExp E) (hT : IsTail T) : ∀ x ∈ S ++ D ++ F ++ E ++ T, 0 ≤ x ∧ x ≤ 255 := by
  intro x hx
  simp only [List.mem_append] at hx
  rcases hx with (((h | h) | h) | h) | h
  · rcases hS with rfl | rfl <;> simp at h; omega
  · have := hD x h; omega
  · rcases hF with rfl | ⟨fs, rfl, _, hd⟩
    · simp at h
    · rcases List.mem_cons.1 h with h | h
      · omega
      · have := hd x h; omega
  · rcases hE with rfl | ⟨m, sg, es, rfl, hm, hsg, _, hd⟩
    · simp at h
    · rcases List.mem_cons.1 h with h | h
      · omega
      · rcases List.mem_append.1 h with h | h
        · rcases hsg with rfl | rfl | rfl <;> simp at h <;> omega
        · have := hd x h; omega
  · rcases hT with rfl | rfl | rfl | rfl | rfl | rfl <;> simp at h <;> omega

theorem tt_bounds {M : List Int} (h : ∀ x ∈ M, 0 ≤ x ∧ x ≤ 255) (k : Nat) : 0 ≤ tt M k ∧ tt M k ≤ 255 := by
  unfold tt
  by_cases hk : k < M.length
  · rw [List.getD_eq_getElem?_getD, List.getElem?_eq_getElem hk]
    exact h _ (List.getElem_mem hk)
  · rw [List.getD_eq_getElem?_getD, List.getElem?_eq_none (by omega)]
    simp

set_option maxRecDepth 100000 in
set_option maxHeartbeats 4000000 in
theorem law4_short (a0 : Bool) (a1 : Int) (a2 a3 : ByteArray) (a4 a5 : Int) (b1 : 0 ≤ a1) (b1' : a1 ≤ 18446744073709551615) (w4 : 0 ≤ a4) (w4' : a4 ≤ 255) (w5 : 0 ≤ a5) (w5' : a5 ≤ 255) (h2 : a2.size ≤ 65536) (h3 : a3.size ≤ 65536) (w : World) :
    Calls Try.prog 4 #[.bool a0, .int .u64 a1, .string a2, .string a3, .int .u8 a4, .int .u8 a5] w fun e w' => e = .returned (.bool true) ∧ Below w.heap.size w w' := by
  have H := bytes12_any a0 a1 a2 a3 a4 a5 (by unfold maxLen; omega) (by unfold maxLen; omega) w
  go_enter Try.func4, Try.ntmps4
  go_wp2_with fail
  refine H.mono ?_
  rintro e w' ⟨r, rfl, rfl, hr⟩
  obtain rfl := hr h2 h3
  clear hr
  go_upto_if 42 with (at_make; refine make_law rfl _ _ rfl _ _ (32 + a2.size + a3.size) rfl rfl (by omega) (by omega) ?_; intro v1 wm hown1)
  generalize hB : w'.heap.size = B at *
  have HB : Hid (w'.heap.size = B) := hB
  clear hB
  go_cut [13] (fun v wc => ∃ S : List Int, Hid (S = [] ∨ S = [45]) ∧ S.length ≤ 1 ∧ Own B w' wc v S)
  case first =>
    cases a0
    · go_wp2_with fail
      go_meet
      exact ⟨[], .inl rfl, by simp, hown1⟩
    · go_wp2_with (at_builtin; refine app_law rfl _ _ rfl B w' _ v1 [] [_] _ rfl 1 rfl rfl hown1 rfl (by simp) ?_; intro v2 w2 hown2)
      go_meet
      exact ⟨[45], .inr rfl, by simp, by assumption⟩
  case rest =>
    obtain ⟨S, HS, hS, hown2⟩ := hcut
    clear hown1
    go_upto_if 51 with (go_at_call 13; refine (appendUint_any B w' _ _ S a1 b1 b1' hown2 (by omega)).mono ?_; rintro e w3 ⟨v3, ds, rfl, hds, hown3⟩)
    have HD : Hid (Written ds) := hds
    have hd20 := hds.len
    clear hds hown2
    go_cut [13] (fun v wc => ∃ F : List Int, Hid (IsFrac F) ∧ F.length ≤ 65537 ∧ Own B w' wc v (S ++ ds ++ F))
    case first =>
      by_cases hF : 0 < a2.size
      · go_wp2_with (at_builtin; refine app_law rfl _ _ rfl B w' _ v3 (S ++ ds) [_] _ rfl 1 rfl rfl hown3 rfl (by simp; omega) ?_; intro v4 w4 hown4)
        clear hown3
        go_loopw [13, 14] (fun v i wc => ∃ (k : Nat) (fs : List Int), k ≤ a2.size ∧ i = .int .i64 k ∧ Hid (fs.length = k) ∧ Hid (∀ d ∈ fs, 48 ≤ d ∧ d ≤ 57) ∧ Own B w' wc v (S ++ ds ++ 46 :: fs)) (fun _ i _ => a2.size - (intOf i).toNat)
        case atStart => exact ⟨0, [], by omega, rfl, rfl, by simp [Hid], hown4⟩
        case round =>
          clear hown4
          obtain ⟨k, fs, hk, rfl, Hfl, Hfd, hown5⟩ := hrel
          by_cases hlt : k < a2.size
          · have Hle : (S ++ ds ++ 46 :: fs).length + 1 ≤ 1000000000 := by have := Hfl.out; simp; omega
            go_wp2_with (at_builtin; refine app_law rfl _ _ rfl B w' _ u13 (S ++ ds ++ 46 :: fs) [_] _ rfl 1 rfl rfl hown5 rfl Hle ?_; intro v6 w6 hown6)
            go_roundw
            case rel =>
              refine ⟨k + 1, fs ++ [48 + (a2[k].toNat : Int) % 10], by omega, by go_num, by simp [Hid, Hfl.out], ?_, by simpa using hown6⟩
              intro d hd
              rcases List.mem_append.1 hd with h | h
              · exact Hfd.out d h
              · simp at h; omega
            case measure => simp [intOf]; omega
          · go_wp2_with fail
            go_meet
            refine ⟨46 :: fs, .inr ⟨fs, rfl, ?_, Hfd.out⟩, ?_, hown5⟩
            · intro h; have := Hfl.out; subst h; simp at this; omega
            · have := Hfl.out; simp; omega
      · go_wp2_with fail
        go_meet
        exact ⟨[], .inl rfl, by simp, by simpa using hown3⟩
    case rest =>
      obtain ⟨F, HF, hF, hown4⟩ := hcut
      clear hown3
      go_upto_if 71 with fail
      have HL4 : Hid ((S ++ ds ++ F).length ≤ 70000) := by simp only [Hid, List.length_append]; omega
      generalize hL4 : S ++ ds ++ F = L4 at *
      have HE4 : Hid (S ++ ds ++ F = L4) := hL4
      clear hL4
      have hL4 : L4.length ≤ 70000 := HL4.out
      go_cut [13] (fun v wc => ∃ E : List Int, Hid (IsExp E) ∧ E.length ≤ 65538 ∧ Own B w' wc v (L4 ++ E))
      case first =>
        by_cases hE : 0 < a3.size
        · go_upto_block 2 with fail
          go_cut [13] (fun v wc => ∃ (m : Int) (sg : List Int), Hid ((m = 101 ∨ m = 69) ∧ (sg = [] ∨ sg = [43] ∨ sg = [45])) ∧ sg.length ≤ 1 ∧ Own B w' wc v (L4 ++ m :: sg))
          case first =>
            go_wp2_with (first | (at_builtin; refine app_law rfl _ _ rfl B w' _ u13 L4 [_] _ rfl 1 rfl rfl hown4 rfl (by omega) ?_; intro v5 w5 hown5) | (at_builtin; refine app_law rfl _ _ rfl B w' _ u13 L4 [_, _] _ rfl 2 rfl rfl hown4 rfl (by omega) ?_; intro v5 w5 hown5))
            all_goals go_meet
            all_goals first
              | exact ⟨101, [], ⟨.inl rfl, .inl rfl⟩, by simp, hown5⟩
              | exact ⟨69, [], ⟨.inr rfl, .inl rfl⟩, by simp, hown5⟩
              | exact ⟨101, [43], ⟨.inl rfl, .inr (.inl rfl)⟩, by simp, hown5⟩
              | exact ⟨101, [45], ⟨.inl rfl, .inr (.inr rfl)⟩, by simp, hown5⟩
              | exact ⟨69, [43], ⟨.inr rfl, .inr (.inl rfl)⟩, by simp, hown5⟩
              | exact ⟨69, [45], ⟨.inr rfl, .inr (.inr rfl)⟩, by simp, hown5⟩
          case rest =>
            obtain ⟨m, sg, Hm, hsg, hown5⟩ := hcut
            clear hown4
            go_wp2_with fail
            go_loopw [13, 15] (fun v i wc => ∃ (k : Nat) (es : List Int), k ≤ a3.size ∧ i = .int .i64 k ∧ Hid (es.length = k) ∧ Hid (∀ d ∈ es, 48 ≤ d ∧ d ≤ 57) ∧ Own B w' wc v (L4 ++ m :: (sg ++ es))) (fun _ i _ => a3.size - (intOf i).toNat)
            case atStart => exact ⟨0, [], by omega, rfl, rfl, by simp [Hid], by simpa using hown5⟩
            case round =>
              clear hown5
              obtain ⟨k, es, hk, rfl, Hfl, Hfd, hown5⟩ := hrel
              by_cases hlt : k < a3.size
              · have Hle : (L4 ++ m :: (sg ++ es)).length + 1 ≤ 1000000000 := by have := Hfl.out; simp; omega
                go_wp2_with (at_builtin; refine app_law rfl _ _ rfl B w' _ u13 (L4 ++ m :: (sg ++ es)) [_] _ rfl 1 rfl rfl hown5 rfl Hle ?_; intro v6 w6 hown6)
                go_roundw
                case rel =>
                  refine ⟨k + 1, es ++ [48 + (a3[k].toNat : Int) % 10], by omega, by go_num, by simp [Hid, Hfl.out], ?_, by simpa using hown6⟩
                  intro d hd
                  rcases List.mem_append.1 hd with h | h
                  · exact Hfd.out d h
                  · simp at h; omega
                case measure => simp [intOf]; omega
              · go_wp2_with fail
                go_meet
                refine ⟨m :: (sg ++ es), .inr ⟨m, sg, es, rfl, Hm.out.1, Hm.out.2, ?_, Hfd.out⟩, ?_, hown5⟩
                · intro h; have := Hfl.out; subst h; simp at this; omega
                · have := Hfl.out; simp; omega
        · go_wp2_with fail
          go_meet
          exact ⟨[], .inl rfl, by simp, by simpa using hown4⟩
      case rest =>
        obtain ⟨E, HE, hE, hown5⟩ := hcut
        clear hown4
        have hne : L4 ++ E ≠ [] := by
          have h1 := HE4.out
          have h2 := HD.out.ne
          intro h
          rw [← h1] at h
          exact h2 (List.append_eq_nil_iff.1 (List.append_eq_nil_iff.1 (List.append_eq_nil_iff.1 h).1).1).2
        have HL5 : Hid ((L4 ++ E).length ≤ 140000) := by simp only [Hid, List.length_append]; omega
        generalize hL5 : L4 ++ E = L5 at *
        have HE5 : Hid (L4 ++ E = L5) := hL5
        clear hL5
        have hL5 : L5.length ≤ 140000 := HL5.out
        obtain ⟨g5, cap5, hv5, hcap5, hcapm5, hg5, hgs5, _⟩ := hown5.shape hne
        clear hne
        subst hv5
        go_upto_block 5 with fail
        go_cut [13] (fun v wc => ∃ T : List Int, Hid (IsTail T) ∧ T.length ≤ 1 ∧ Own B w' wc v (L5 ++ T))
        case first =>
          go_wp2_with (at_builtin; refine app_law rfl _ _ rfl B w' _ (.slice (some ⟨g5, 0, none⟩) L5.length cap5) L5 [_] _ rfl 1 rfl rfl hown5 rfl (by omega) ?_; intro v6 w6 hown6)
          all_goals go_meet
          all_goals first
            | exact ⟨[32], by simp [Hid, IsTail], by simp, hown6⟩
            | exact ⟨[44], by simp [Hid, IsTail], by simp, hown6⟩
            | exact ⟨[93], by simp [Hid, IsTail], by simp, hown6⟩
            | exact ⟨[125], by simp [Hid, IsTail], by simp, hown6⟩
            | exact ⟨[120], by simp [Hid, IsTail], by simp, hown6⟩
            | exact ⟨[], .inl rfl, by simp, by simpa using hown5⟩
        case rest =>
          obtain ⟨T, HT, hT, hown6⟩ := hcut
          clear hown5
          have hM : ∀ x ∈ L5 ++ T, 0 ≤ x ∧ x ≤ 255 := by
            rw [← HE5.out, ← HE4.out]
            exact bounded HS.out HD.out.dig HF.out HE.out HT.out
          have hpos : 0 < (L5 ++ T).length := by
            have h2 := List.length_pos_iff.2 HD.out.ne
            rw [← HE5.out, ← HE4.out]; simp only [List.length_append]; omega
          have hv : vnum (tt (L5 ++ T)) (L5 ++ T).length 0 = some L5.length := by
            have h := vnum_written S ds F E T HS.out HD.out.dig HD.out.ne HD.out.head HF.out HE.out HT.out
            rw [← HE5.out, ← HE4.out]
            simpa using h
          obtain ⟨g6, cap6, hv6, hcap6, hcapm6, hg6, hgs6, hc6⟩ := hown6.shape (List.length_pos_iff.1 hpos)
          subst hv6
          have HV := ZZvalidNumber_any (tt (L5 ++ T)) (tt_bounds hM) g6 (L5 ++ T).length cap6 0 0 rfl wc (by omega) hpos hgs6 hc6
          rw [hv] at HV
          unfold ansN at HV
          simp only [List.length_append] at HV
          have HBel := hown6.bel
          rw [← HB.out] at HBel
          clear hc6 hv hM hown6
          go_wp2_with fail
          refine HV.mono ?_
          rintro e w7 ⟨rfl, hbel7⟩
          go_wp2_with fail
          go_ret
          exact ⟨by simp, HBel.trans (hbel7.mono HBel.size)⟩

end Go.Proofs.Qxb6605207a
