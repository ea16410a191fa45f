/-
  The walk of FnCutToFitsItsBudgetExactly.
-/
import Derived.Test.Qxb6605293aWalks2
namespace Go.Proofs.Qxb6605293a
open Go.RowKit
set_option linter.unusedVariables false

theorem toList_data (s : ByteArray) : s.toList = s.data.toList := by
  simp [ByteArray.toList_eq]

/-- Strings of other lengths are others. -/
theorem ne_lists {p q : ByteArray} (h : p.size ≠ q.size) : (p.toList == q.toList) = false := by
  rw [beq_eq_false_iff_ne]
  intro e
  rw [toList_data, toList_data] at e
  exact h (by rw [size_list, size_list, e])

theorem ext_list {a b : ByteArray} (h : a.data.toList = b.data.toList) : a = b := by
  cases a; cases b
  congr
  exact Array.toList_inj.1 h

theorem join_tail (p q : ByteArray) (m : Nat) (hp : p.size = m) : (p ++ q).extract m (m + q.size) = q := by
  apply ext_list
  rw [Lib.extract_data, join_list]
  rw [size_list] at hp
  rw [List.drop_left' hp, size_list]
  rw [show m + q.data.toList.length - m = q.data.toList.length from by omega, List.take_length]

theorem join_head (p q : ByteArray) (m : Nat) (hp : p.size = m) : (p ++ q).extract 0 m = p := by
  apply ext_list
  rw [head_list, join_list]
  rw [size_list] at hp
  rw [List.take_left' hp]

theorem bytes15_any (s : ByteArray) (x : Int) (hs : s.size ≤ maxLen) (w : World) :
    Calls Try.prog 15 #[.string s, .int .i64 x] w fun e w' => ∃ r : Bool, e = .returned (.bool r) ∧ w' = w ∧ (s.size ≤ 1048576 → r = true) := by
  unfold maxLen at hs
  go_enter Try.func15, Try.ntmps15
  go_wp2
  all_goals
    go_ret
    exact ⟨_, rfl, rfl, by intros; first | rfl | omega⟩

set_option maxRecDepth 100000 in
set_option maxHeartbeats 1000000 in
theorem law6_out (s : ByteArray) (x : Int) (hs : s.size ≤ maxLen) (hout : ¬ (s.size ≤ 1048576 ∧ 0 ≤ x ∧ x ≤ 1073741824)) (w : World) :
    Calls Try.prog 6 #[.string s, .int .i64 x] w fun e w' => e = .returned (.bool true) ∧ Below w.heap.size w w' := by
  have H := bytes15_any s x hs w
  unfold maxLen at hs
  go_enter Try.func6, Try.ntmps6
  go_wp2_with fail
  refine H.mono ?_
  rintro e w' ⟨r, rfl, rfl, _⟩
  cases r
  · go_wp2_with fail
    go_ret
    exact ⟨rfl, Below.refl _ _⟩
  · by_cases h1 : s.size ≤ 1048576
    · by_cases h2 : x < 0
      · go_wp2_with fail
        go_ret
        exact ⟨rfl, Below.refl _ _⟩
      · have h3 : 1073741824 < x := by omega
        clear hout
        go_wp2_with fail
        go_ret
        exact ⟨rfl, Below.refl _ _⟩
    · go_wp2_with fail
      go_ret
      exact ⟨rfl, Below.refl _ _⟩

set_option maxRecDepth 100000 in
set_option maxHeartbeats 2000000 in
/-- The text is short enough. -/
theorem law6_short (s : ByteArray) (x : Int) (hs : s.size ≤ 1048576) (h0 : 0 ≤ x) (h1 : x ≤ 1073741824) (c : Nat) (hc : IsCnt s c) (hcs : c ≤ s.size) (hx : (c : Int) ≤ x) (w : World) :
    Calls Try.prog 6 #[.string s, .int .i64 x] w fun e w' => e = .returned (.bool true) ∧ Below w.heap.size w w' := by
  have H := bytes15_any s x (by unfold maxLen; omega) w
  have HC := CutTo_any s (by omega) x c hc hcs w
  rw [cutv, if_pos (.inr hx)] at HC
  have HN : Hid (∀ w, Calls Try.prog 9 #[.string s] w fun e w' => e = .returned (.int .i64 c) ∧ w' = w) := count_any s (by omega) c hc hcs
  clear hc
  go_enter Try.func6, Try.ntmps6
  go_wp2_with fail
  refine H.mono ?_
  rintro e w' ⟨r, rfl, rfl, hr⟩
  obtain rfl := hr hs
  clear hr H
  go_wp2_with fail
  refine HC.mono ?_
  rintro e w1 ⟨rfl, hb⟩
  go_wp2_with fail
  refine (HN.out _).mono ?_
  rintro e w2 ⟨rfl, rfl⟩
  go_wp2_with fail
  go_ret
  exact ⟨rfl, hb⟩

set_option maxRecDepth 100000 in
set_option maxHeartbeats 2000000 in
/-- The text is cut; the facts on the strings are given. -/
theorem law6_cut (s g p q : ByteArray) (M m : Nat) (hs : s.size ≤ 1048576) (h1 : M ≤ 1073741824) (c : Nat) (hx : M < c) (hms : m < s.size) (hMs : M ≤ s.size)
    (hp : p.size = m) (hg : g.size = m + 3) (hq : q.size = m + 5) (e1 : g.extract m (m + 3) = ⟨#[46, 46, 46]⟩) (e2 : g.extract 0 m = p) (e3 : s.extract 0 m = p) (w : World)
    (HC : ∀ w, Calls Try.prog 14 #[.string s, .int .i64 M] w fun e w' => e = .returned (.string g) ∧ Below w.heap.size w w')
    (HN : ∀ w, Calls Try.prog 9 #[.string s] w fun e w' => e = .returned (.int .i64 c) ∧ w' = w)
    (HNp : ∀ w, Calls Try.prog 9 #[.string p] w fun e w' => e = .returned (.int .i64 M) ∧ w' = w)
    (HNg : ∀ w, Calls Try.prog 9 #[.string g] w fun e w' => e = .returned (.int .i64 ((M : Int) + 3)) ∧ w' = w)
    (HC3 : ∀ w, Calls Try.prog 14 #[.string g, .int .i64 ((M : Int) + 3)] w fun e w' => e = .returned (.string g) ∧ Below w.heap.size w w')
    (HC2 : ∀ w, Calls Try.prog 14 #[.string g, .int .i64 ((M : Int) + 2)] w fun e w' => e = .returned (.string q) ∧ Below w.heap.size w w') :
    Calls Try.prog 6 #[.string s, .int .i64 M] w fun e w' => e = .returned (.bool true) ∧ Below w.heap.size w w' := by
  have H := bytes15_any s M (by unfold maxLen; omega) w
  have KC : Hid (∀ w, Calls Try.prog 14 #[.string s, .int .i64 M] w fun e w' => e = .returned (.string g) ∧ Below w.heap.size w w') := HC
  have KN : Hid (∀ w, Calls Try.prog 9 #[.string s] w fun e w' => e = .returned (.int .i64 c) ∧ w' = w) := HN
  have KNp : Hid (∀ w, Calls Try.prog 9 #[.string p] w fun e w' => e = .returned (.int .i64 M) ∧ w' = w) := HNp
  have KNg : Hid (∀ w, Calls Try.prog 9 #[.string g] w fun e w' => e = .returned (.int .i64 ((M : Int) + 3)) ∧ w' = w) := HNg
  have KC3 : Hid (∀ w, Calls Try.prog 14 #[.string g, .int .i64 ((M : Int) + 3)] w fun e w' => e = .returned (.string g) ∧ Below w.heap.size w w') := HC3
  have KC2 : Hid (∀ w, Calls Try.prog 14 #[.string g, .int .i64 ((M : Int) + 2)] w fun e w' => e = .returned (.string q) ∧ Below w.heap.size w w') := HC2
  clear HC HN HNp HNg HC3 HC2
  go_enter Try.func6, Try.ntmps6
  go_wp2_with fail
  refine H.mono ?_
  rintro e w' ⟨r, rfl, rfl, hr⟩
  obtain rfl := hr hs
  clear hr H
  go_wp2_with fail
  refine (KC.out _).mono ?_
  rintro e w1 ⟨rfl, hb1⟩
  have B1 : Hid (Below w'.heap.size w' w1) := hb1
  clear hb1
  go_wp2_with fail
  refine (KN.out _).mono ?_
  rintro e w2 ⟨rfl, rfl⟩
  go_wp2_with fail
  refine (KNp.out _).mono ?_
  rintro e w3 ⟨rfl, rfl⟩
  go_wp2_with fail
  refine (KNg.out _).mono ?_
  rintro e w4 ⟨rfl, rfl⟩
  go_wp2_with fail
  refine (KC3.out _).mono ?_
  rintro e w5 ⟨rfl, hb5⟩
  have B5 : Hid (Below w'.heap.size w' w5) := B1.out.trans (hb5.mono B1.out.size)
  clear hb5 B1
  go_wp2_with fail
  refine (KC2.out _).mono ?_
  rintro e w6 ⟨rfl, hb6⟩
  have B6 : Hid (Below w'.heap.size w' w6) := B5.out.trans (hb6.mono B5.out.size)
  clear hb6 B5
  go_wp2_with fail
  go_ret
  exact ⟨ret_bool (by rw [ne_lists (by omega)]; rfl), B6.out⟩

/-- Every text, every budget within the guards. -/
theorem law6_in (s : ByteArray) (x : Int) (hs : s.size ≤ 1048576) (h0 : 0 ≤ x) (h1 : x ≤ 1073741824) (w : World) :
    Calls Try.prog 6 #[.string s, .int .i64 x] w fun e w' => e = .returned (.bool true) ∧ Below w.heap.size w w' := by
  obtain ⟨c, hcs, hc⟩ := exists_cnt s
  by_cases hx : (c : Int) ≤ x
  · exact law6_short s x hs h0 h1 c hc hcs hx w
  · obtain ⟨M, rfl⟩ := Int.eq_ofNat_of_zero_le h0
    have hMc : M < c := by omega
    have hm : offs s M < s.size := (cnt_lt hc M).2 hMc
    have hle := offs_le s M
    have hall : ∀ j, j < M → offs s j < s.size := fun j hj => (cnt_lt hc j).2 (by omega)
    have hp := head_size s (offs s M) hle
    have hg : (s.extract 0 (offs s M) ++ dots).size = offs s M + 3 := by rw [join_size, hp, dots_size]
    obtain ⟨hcd, ho2⟩ := cnt_dots hall
    have hcutv : cutv s M c = s.extract 0 (offs s M) ++ dots := by
      rw [cutv, if_neg (by omega)]; simp
    have hcut3 : cutv (s.extract 0 (offs s M) ++ dots) ((M : Int) + 3) (M + 3) = s.extract 0 (offs s M) ++ dots := by
      rw [cutv, if_pos (by right; omega)]
    have e23 : ((M : Int) + 2).toNat = M + 2 := by omega
    have hcut2 : cutv (s.extract 0 (offs s M) ++ dots) ((M : Int) + 2) (M + 3) = (s.extract 0 (offs s M) ++ dots).extract 0 (offs s M + 2) ++ dots := by
      rw [cutv, if_neg (by omega), e23, ho2]
    have hgM : M + 3 ≤ (s.extract 0 (offs s M) ++ dots).size := by
      rcases offs_ge s M with h | h <;> omega
    have hcn : (((M + 3 : Nat)) : Int) = (M : Int) + 3 := by omega
    refine law6_cut s (s.extract 0 (offs s M) ++ dots) (s.extract 0 (offs s M)) ((s.extract 0 (offs s M) ++ dots).extract 0 (offs s M + 2) ++ dots) M (offs s M) hs (by omega) c hMc hm (by omega) hp hg ?_ ?_ ?_ rfl w ?_ ?_ ?_ ?_ ?_ ?_
    · rw [join_size, head_size _ _ (by omega), dots_size]
    · exact join_tail _ _ _ hp
    · exact join_head _ _ _ hp
    · intro w
      have h := CutTo_any s (by omega) M c hc hcs w
      rw [hcutv] at h
      exact h
    · exact count_any s (by omega) c hc hcs
    · exact count_any _ (by omega) M (cnt_head hall) (by rw [hp]; rcases offs_ge s M with h | h <;> omega)
    · intro w
      have h := count_any _ (by omega) (M + 3) hcd hgM w
      rw [hcn] at h
      exact h
    · intro w
      have h := CutTo_any _ (by omega) ((M : Int) + 3) (M + 3) hcd hgM w
      rw [hcut3] at h
      exact h
    · intro w
      have h := CutTo_any _ (by omega) ((M : Int) + 2) (M + 3) hcd hgM w
      rw [hcut2] at h
      exact h

end Go.Proofs.Qxb6605293a
