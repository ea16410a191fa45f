/-
  The walk of FnPrefixResumesAtItsCut.
-/
import Derived.Test.Qxb6605293aWalks2
namespace Go.Proofs.Qxb6605293a
open Go.RowKit
set_option linter.unusedVariables false

theorem bytes11_any (s : ByteArray) (x y : Int) (hs : s.size ≤ maxLen) (w : World) :
    Calls Try.prog 11 #[.string s, .int .i64 x, .int .i64 y] w fun e w' => ∃ r : Bool, e = .returned (.bool r) ∧ w' = w ∧ (s.size ≤ 1048576 → r = true) := by
  unfold maxLen at hs
  go_enter Try.func11, Try.ntmps11
  go_wp2
  all_goals
    go_ret
    exact ⟨_, rfl, rfl, by intros; first | rfl | omega⟩

theorem min_any (x y : Int) (w : World) : Calls Try.prog 12 #[.int .i64 x, .int .i64 y] w fun e w' => e = .returned (.int .i64 (if x < y then x else y)) ∧ w' = w := by
  by_cases h : x < y
  · rw [if_pos h]
    go_enter Try.func12, Try.ntmps12
    go_wp2
    go_ret
    exact ⟨rfl, rfl⟩
  · rw [if_neg h]
    go_enter Try.func12, Try.ntmps12
    go_wp2
    go_ret
    exact ⟨rfl, rfl⟩

set_option maxRecDepth 100000 in
set_option maxHeartbeats 1000000 in
theorem law4_out (s : ByteArray) (x y : Int) (hs : s.size ≤ maxLen) (hout : ¬ (s.size ≤ 1048576 ∧ 0 ≤ x ∧ 0 ≤ y ∧ x ≤ 536870912 ∧ y ≤ 536870912)) (w : World) :
    Calls Try.prog 4 #[.string s, .int .i64 x, .int .i64 y] w fun e w' => e = .returned (.bool true) ∧ Below w.heap.size w w' := by
  have H := bytes11_any s x y hs w
  unfold maxLen at hs
  go_enter Try.func4, Try.ntmps4
  go_wp2_with fail
  refine H.mono ?_
  rintro e w' ⟨r, rfl, rfl, _⟩
  cases r
  · go_wp2_with fail
    go_ret
    exact ⟨rfl, Below.refl _ _⟩
  · by_cases h1 : s.size ≤ 1048576
    · by_cases h2 : x < 0
      · clear hout
        go_wp2_with fail
        go_ret
        exact ⟨rfl, Below.refl _ _⟩
      · by_cases h3 : y < 0
        · clear hout
          go_wp2_with fail
          go_ret
          exact ⟨rfl, Below.refl _ _⟩
        · by_cases h4 : 536870912 < x
          · clear hout
            go_wp2_with fail
            go_ret
            exact ⟨rfl, Below.refl _ _⟩
          · have h5 : 536870912 < y := by omega
            clear hout
            go_wp2_with fail
            go_ret
            exact ⟨rfl, Below.refl _ _⟩
    · clear hout
      go_wp2_with fail
      go_ret
      exact ⟨rfl, Below.refl _ _⟩

set_option maxRecDepth 100000 in
set_option maxHeartbeats 2000000 in
/-- The first budget takes the whole text. -/
theorem law4_whole (s : ByteArray) (A D c : Nat) (hs : s.size ≤ 1048576) (hA : A ≤ 536870912) (hD : D ≤ 536870912) (hc : IsCnt s c) (hcs : c ≤ s.size) (hx : c ≤ A) (w : World) :
    Calls Try.prog 4 #[.string s, .int .i64 A, .int .i64 D] w fun e w' => e = .returned (.bool true) ∧ Below w.heap.size w w' := by
  have H := bytes11_any s A D (by unfold maxLen; omega) w
  have HP : Hid (∀ w (x : Int), (c : Int) ≤ x → Calls Try.prog 8 #[.string s, .int .i64 x] w fun e w' => e = .returned (.tuple #[.string s, .bool true]) ∧ Below w.heap.size w w') := by
    intro w x hx
    have h := ZZprefix_any s (by omega) x c hc hcs w
    rw [pre, if_pos (.inr hx)] at h
    exact h
  have HN : Hid (∀ w, Calls Try.prog 9 #[.string s] w fun e w' => e = .returned (.int .i64 c) ∧ w' = w) := count_any s (by omega) c hc hcs
  have HM : Hid (∀ w, Calls Try.prog 12 #[.int .i64 A, .int .i64 c] w fun e w' => e = .returned (.int .i64 c) ∧ w' = w) := by
    intro w
    have h := min_any A c w
    rw [if_neg (by omega)] at h
    exact h
  clear hc
  go_enter Try.func4, Try.ntmps4
  go_wp2_with fail
  refine H.mono ?_
  rintro e w' ⟨r, rfl, rfl, hr⟩
  obtain rfl := hr hs
  clear hr H
  go_wp2_with fail
  refine (HP.out _ _ (by omega)).mono ?_
  rintro e w1 ⟨rfl, hb1⟩
  have B1 : Hid (Below w'.heap.size w' w1) := hb1
  clear hb1
  go_wp2_with fail
  refine (HN.out _).mono ?_
  rintro e w2 ⟨rfl, rfl⟩
  go_wp2_with fail
  refine (HN.out _).mono ?_
  rintro e w3 ⟨rfl, rfl⟩
  go_wp2_with fail
  refine (HM.out _).mono ?_
  rintro e w4 ⟨rfl, rfl⟩
  go_wp2_with fail
  refine (HP.out _ _ (by omega)).mono ?_
  rintro e w5 ⟨rfl, hb5⟩
  have B5 : Hid (Below w'.heap.size w' w5) := B1.out.trans (hb5.mono B1.out.size)
  clear hb5 B1
  go_wp2_with fail
  go_ret
  exact ⟨rfl, B5.out⟩

set_option maxRecDepth 100000 in
set_option maxHeartbeats 2000000 in
/-- The first budget cuts the text; the facts on the strings are given. -/
theorem law4_cut (s p t k2 k3 : ByteArray) (f : Bool) (A D c m : Nat) (hs : s.size ≤ 1048576) (hA : A ≤ 536870912) (hD : D ≤ 536870912) (hx : A < c) (hm : m < s.size)
    (hp : p.size = m) (hk2 : k2.size ≤ 1048576) (e3 : s.extract 0 m = p) (e4 : s.extract m s.size = t) (e5 : p ++ k2 = k3) (w : World)
    (HP : ∀ w, Calls Try.prog 8 #[.string s, .int .i64 A] w fun e w' => e = .returned (.tuple #[.string p, .bool false]) ∧ Below w.heap.size w w')
    (HN : ∀ w, Calls Try.prog 9 #[.string s] w fun e w' => e = .returned (.int .i64 c) ∧ w' = w)
    (HNp : ∀ w, Calls Try.prog 9 #[.string p] w fun e w' => e = .returned (.int .i64 A) ∧ w' = w)
    (HP3 : ∀ w, Calls Try.prog 8 #[.string s, .int .i64 ((A : Int) + D)] w fun e w' => e = .returned (.tuple #[.string k3, .bool f]) ∧ Below w.heap.size w w')
    (HP2 : ∀ w, Calls Try.prog 8 #[.string t, .int .i64 D] w fun e w' => e = .returned (.tuple #[.string k2, .bool f]) ∧ Below w.heap.size w w') :
    Calls Try.prog 4 #[.string s, .int .i64 A, .int .i64 D] w fun e w' => e = .returned (.bool true) ∧ Below w.heap.size w w' := by
  have H := bytes11_any s A D (by unfold maxLen; omega) w
  have KP : Hid (∀ w, Calls Try.prog 8 #[.string s, .int .i64 A] w fun e w' => e = .returned (.tuple #[.string p, .bool false]) ∧ Below w.heap.size w w') := HP
  have KN : Hid (∀ w, Calls Try.prog 9 #[.string s] w fun e w' => e = .returned (.int .i64 c) ∧ w' = w) := HN
  have KNp : Hid (∀ w, Calls Try.prog 9 #[.string p] w fun e w' => e = .returned (.int .i64 A) ∧ w' = w) := HNp
  have KP3 : Hid (∀ w, Calls Try.prog 8 #[.string s, .int .i64 ((A : Int) + D)] w fun e w' => e = .returned (.tuple #[.string k3, .bool f]) ∧ Below w.heap.size w w') := HP3
  have KP2 : Hid (∀ w, Calls Try.prog 8 #[.string t, .int .i64 D] w fun e w' => e = .returned (.tuple #[.string k2, .bool f]) ∧ Below w.heap.size w w') := HP2
  have KM : Hid (∀ w, Calls Try.prog 12 #[.int .i64 A, .int .i64 c] w fun e w' => e = .returned (.int .i64 A) ∧ w' = w) := by
    intro w
    have h := min_any A c w
    rw [if_pos (by omega)] at h
    exact h
  clear HP HN HNp HP3 HP2
  go_enter Try.func4, Try.ntmps4
  go_wp2_with fail
  refine H.mono ?_
  rintro e w' ⟨r, rfl, rfl, hr⟩
  obtain rfl := hr hs
  clear hr H
  go_wp2_with fail
  refine (KP.out _).mono ?_
  rintro e w1 ⟨rfl, hb1⟩
  have B1 : Hid (Below w'.heap.size w' w1) := hb1
  clear hb1
  go_wp2_with fail
  refine (KN.out _).mono ?_
  rintro e w2 ⟨rfl, rfl⟩
  go_wp2_with fail
  refine (KNp.out _).mono ?_
  rintro e w3 ⟨rfl, rfl⟩
  go_wp2_with fail
  refine (KM.out _).mono ?_
  rintro e w4 ⟨rfl, rfl⟩
  go_wp2_with fail
  refine (KP3.out _).mono ?_
  rintro e w5 ⟨rfl, hb5⟩
  have B5 : Hid (Below w'.heap.size w' w5) := B1.out.trans (hb5.mono B1.out.size)
  clear hb5 B1
  go_wp2_with fail
  refine (KP2.out _).mono ?_
  rintro e w6 ⟨rfl, hb6⟩
  have B6 : Hid (Below w'.heap.size w' w6) := B5.out.trans (hb6.mono B5.out.size)
  clear hb6 B5
  go_wp2_with fail
  go_ret
  exact ⟨rfl, B6.out⟩

theorem ext_bytes {a b : ByteArray} (h : a.data.toList = b.data.toList) : a = b := by
  cases a; cases b
  congr
  exact Array.toList_inj.1 h

/-- The tail from character A on holds what is left. -/
theorem cnt_tail {s : ByteArray} {c A : Nat} (hc : IsCnt s c) (hA : A ≤ c) : IsCnt (s.extract (offs s A) s.size) (c - A) := by
  have hsz := Lib.tail_size s (offs s A)
  have hle := offs_le s A
  have h1 := hc.1
  have ht := offs_tail s A (c - A)
  rw [show A + (c - A) = c from by omega, h1] at ht
  refine ⟨by omega, fun j hj => ?_⟩
  have h2 := hc.2 (A + j) (by omega)
  have h3 := offs_tail s A j
  omega

theorem split_at (s : ByteArray) (m r : Nat) : s.extract 0 m ++ (s.extract m s.size).extract 0 r = s.extract 0 (m + r) := by
  apply ext_bytes
  rw [join_list, head_list, head_list, head_list, Lib.extract_data]
  have e : (s.data.toList.drop m).take (s.size - m) = s.data.toList.drop m := by
    apply List.take_of_length_le
    rw [List.length_drop, ← size_list]
    omega
  rw [e, List.take_add]

theorem split_all (s : ByteArray) (m : Nat) : s.extract 0 m ++ s.extract m s.size = s := by
  apply ext_bytes
  rw [join_list, head_list, Lib.extract_data]
  have e : (s.data.toList.drop m).take (s.size - m) = s.data.toList.drop m := by
    apply List.take_of_length_le
    rw [List.length_drop, ← size_list]
    omega
  rw [e, List.take_append_drop]

theorem law4_in (s : ByteArray) (x y : Int) (hs : s.size ≤ 1048576) (hx0 : 0 ≤ x) (hy0 : 0 ≤ y) (hx1 : x ≤ 536870912) (hy1 : y ≤ 536870912) (w : World) :
    Calls Try.prog 4 #[.string s, .int .i64 x, .int .i64 y] w fun e w' => e = .returned (.bool true) ∧ Below w.heap.size w w' := by
  obtain ⟨A, rfl⟩ := Int.eq_ofNat_of_zero_le hx0
  obtain ⟨D, rfl⟩ := Int.eq_ofNat_of_zero_le hy0
  obtain ⟨c, hcs, hc⟩ := exists_cnt s
  by_cases hx : c ≤ A
  · exact law4_whole s A D c hs (by omega) (by omega) hc hcs hx w
  · have hm : offs s A < s.size := (cnt_lt hc A).2 (by omega)
    have hle := offs_le s A
    have hp := head_size s (offs s A) hle
    have hall : ∀ j, j < A → offs s j < s.size := fun j hj => (cnt_lt hc j).2 (by omega)
    have hct := cnt_tail hc (show A ≤ c from by omega)
    have htz := Lib.tail_size s (offs s A)
    have hcts : c - A ≤ (s.extract (offs s A) s.size).size := by
      rcases offs_ge (s.extract (offs s A) s.size) (c - A) with h | h
      · have := offs_le (s.extract (offs s A) s.size) (c - A); omega
      · by_cases hz : c - A = 0
        · omega
        · rcases exists_cnt (s.extract (offs s A) s.size) with ⟨c2, h1, h2⟩
          have h3 := (cnt_lt h2 c2)
          have h4 := (cnt_lt hct c2)
          have h5 := h2.1
          omega
    have HP : ∀ w, Calls Try.prog 8 #[.string s, .int .i64 A] w fun e w' => e = .returned (.tuple #[.string (s.extract 0 (offs s A)), .bool false]) ∧ Below w.heap.size w w' := by
      intro w
      have h := ZZprefix_any s (by omega) A c hc hcs w
      rw [pre, if_neg (by omega), Int.toNat_natCast] at h
      exact h
    have HN := count_any s (by omega) c hc hcs
    have HNp := count_any (s.extract 0 (offs s A)) (by omega) A (cnt_head hall) (by rw [hp]; rcases offs_ge s A with h | h <;> omega)
    by_cases hxy : c ≤ A + D
    · refine law4_cut s (s.extract 0 (offs s A)) (s.extract (offs s A) s.size) (s.extract (offs s A) s.size) s true A D c (offs s A) hs (by omega) (by omega) (by omega) hm hp (by omega) rfl rfl (split_all s _) w HP HN HNp ?_ ?_
      · intro w
        have h := ZZprefix_any s (by omega) ((A : Int) + D) c hc hcs w
        rw [pre, if_pos (by right; omega)] at h
        exact h
      · intro w
        have h := ZZprefix_any _ (by omega) D (c - A) hct hcts w
        rw [pre, if_pos (by right; omega)] at h
        exact h
    · have hot := offs_tail s A D
      have hk2 : ((s.extract (offs s A) s.size).extract 0 (offs (s.extract (offs s A) s.size) D)).size ≤ 1048576 := by
        rw [head_size _ _ (offs_le _ _)]
        have := offs_le (s.extract (offs s A) s.size) D
        omega
      refine law4_cut s (s.extract 0 (offs s A)) (s.extract (offs s A) s.size) ((s.extract (offs s A) s.size).extract 0 (offs (s.extract (offs s A) s.size) D)) (s.extract 0 (offs s (A + D))) false A D c (offs s A) hs (by omega) (by omega) (by omega) hm hp hk2 rfl rfl (by rw [split_at, hot]) w HP HN HNp ?_ ?_
      · intro w
        have h := ZZprefix_any s (by omega) ((A : Int) + D) c hc hcs w
        have e : ((A : Int) + D).toNat = A + D := by omega
        rw [pre, if_neg (by omega), e] at h
        exact h
      · intro w
        have h := ZZprefix_any _ (by omega) D (c - A) hct hcts w
        rw [pre, if_neg (by omega), Int.toNat_natCast] at h
        exact h

end Go.Proofs.Qxb6605293a
