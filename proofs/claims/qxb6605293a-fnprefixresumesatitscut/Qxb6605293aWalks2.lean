/-
  The walks of zzCount, zzOffset, the cutting function and CutTo.
-/
import Derived.Test.Qxb6605293aWalks
namespace Go.Proofs.Qxb6605293a
open Go.RowKit
set_option linter.unusedVariables false

set_option maxRecDepth 100000 in
set_option maxHeartbeats 1000000 in
theorem count_any (s : ByteArray) (hs : s.size ≤ 1000000000) (c : Nat) (hc : IsCnt s c) (hcs : c ≤ s.size) (w : World) :
    Calls Try.prog 9 #[.string s] w fun e w' => e = .returned (.int .i64 c) ∧ w' = w := by
  have HC : Hid (IsCnt s c) := hc
  clear hc
  go_enter Try.func9, Try.ntmps9
  go_wp2_with fail
  go_loop [3, 4] (fun n i => ∃ k : Nat, k ≤ c ∧ n = .int .i64 k ∧ i = .int .i64 (offs s k)) (fun n _ => c - (intOf n).toNat)
  case atStart => exact ⟨0, by omega, rfl, rfl⟩
  case round =>
    obtain ⟨k, hk, rfl, rfl⟩ := hrel
    have hle := offs_le s k
    have hiff := cnt_lt HC.out k
    have HI : Hid (offs s k < s.size ↔ k < c) := hiff
    clear hiff
    by_cases hlt : k < c
    · have ho := HI.out.2 hlt
      have hw := W_range s _ ho
      have HS : Hid (offs s (k + 1) = offs s k + W s (offs s k)) := offs_succ ho
      have H := width_any s (offs s k) (offs s k) rfl hs ho w
      generalize offs s k = p at *
      generalize W s p = q at *
      go_wp2_with (go_at_call 17; refine H.mono ?_; rintro e w' ⟨rfl, rfl⟩)
      go_round
      case rel => exact ⟨k + 1, by omega, by go_num, by rw [HS.out]; go_num⟩
      case measure => simp [intOf]; omega
    · have ho : ¬ offs s k < s.size := fun h => hlt (HI.out.1 h)
      have ek : k = c := by omega
      subst ek
      go_wp2_with fail
      go_ret
      exact ⟨rfl, rfl⟩

set_option maxRecDepth 100000 in
set_option maxHeartbeats 1000000 in
theorem offset_any (s : ByteArray) (hs : s.size ≤ 1000000000) (x : Int) (m : Nat) (hx : x = m) (hm : x ≤ 9223372036854775807) (w : World) :
    Calls Try.prog 10 #[.string s, .int .i64 x] w fun e w' => e = .returned (.int .i64 (offs s m)) ∧ w' = w := by
  subst hx
  go_enter Try.func10, Try.ntmps10
  go_wp2_with fail
  go_loop [5, 6] (fun i j => ∃ k : Nat, k ≤ m ∧ j = .int .i64 k ∧ i = .int .i64 (offs s k)) (fun _ j => m - (intOf j).toNat)
  case atStart => exact ⟨0, by omega, rfl, rfl⟩
  case round =>
    obtain ⟨k, hk, rfl, rfl⟩ := hrel
    have hle := offs_le s k
    by_cases hlt : k < m
    · by_cases ho : offs s k < s.size
      · have hw := W_range s _ ho
        have HS : Hid (offs s (k + 1) = offs s k + W s (offs s k)) := offs_succ ho
        have H := width_any s (offs s k) (offs s k) rfl hs ho w
        generalize offs s k = p at *
        generalize W s p = q at *
        go_wp2_with (go_at_call 17; refine H.mono ?_; rintro e w' ⟨rfl, rfl⟩)
        go_round
        case rel => exact ⟨k + 1, by omega, by go_num, by rw [HS.out]; go_num⟩
        case measure => simp [intOf]; omega
      · have HS : Hid (offs s m = offs s k) := by
          have h1 := offs_mono' s hk
          have h2 := offs_le s m
          simp only [Hid]; omega
        go_wp2_with fail
        go_ret
        exact ⟨ret_int (by rw [HS.out]), rfl⟩
    · have ek : k = m := by omega
      subst ek
      go_wp2_with fail
      go_ret
      exact ⟨rfl, rfl⟩

/-- What the cutting function hands back. -/
def ansP (s : ByteArray) (b : Bool) : Value := .tuple #[.string s, .bool b]

set_option maxRecDepth 100000 in
set_option maxHeartbeats 1000000 in
theorem prefix_cut (s : ByteArray) (hs : s.size ≤ 1000000000) (x : Int) (m : Nat) (hx : x = m) (hcut : offs s m < s.size) (w : World) :
    Calls Try.prog 16 #[.string s, .int .i64 x] w fun e w' => e = .returned (ansP (s.extract 0 (offs s m)) false) ∧ Below w.heap.size w w' := by
  subst hx
  have hm : m ≤ s.size := by have := offs_ge s m; omega
  go_enter Try.func16, Try.ntmps16
  go_wp2_with fail
  go_loopw [6] (fun n wr => ∃ k : Nat, k ≤ m ∧ n = .int .i64 k ∧ wr = w.iter s (offs s k)) (fun n _ => m - (intOf n).toNat)
  case atStart => exact ⟨0, by omega, rfl, rfl⟩
  case round =>
    obtain ⟨k, hk, rfl, rfl⟩ := hrel
    have hko := offs_mono' s hk
    have ho : offs s k < s.size := by omega
    have hnx := fun ty => run_next_any (P := Try.prog) w s (offs s k) ty ho
    have HS : Hid (offs s (k + 1) = offs s k + (Utf8.decode s (offs s k)).2) := offs_succ ho
    by_cases hlt : k < m
    · go_wp2_with fail
      go_roundw
      case rel => exact ⟨k + 1, by omega, by go_num, by rw [HS.out]⟩
      case measure => simp [intOf]; omega
    · have ek : k = m := by omega
      subst ek
      go_wp2_with fail
      go_ret2
      exact ⟨rfl, (Below.refl _ _).alloc (Nat.le_refl _) _⟩

set_option maxRecDepth 100000 in
set_option maxHeartbeats 1000000 in
theorem prefix_whole (s : ByteArray) (hs : s.size ≤ 1000000000) (x : Int) (c : Nat) (hc : IsCnt s c) (hcs : c ≤ s.size) (hx : x < 0 ∨ (c : Int) ≤ x) (w : World) :
    Calls Try.prog 16 #[.string s, .int .i64 x] w fun e w' => e = .returned (ansP s true) ∧ Below w.heap.size w w' := by
  have HC : Hid (IsCnt s c) := hc
  clear hc
  go_enter Try.func16, Try.ntmps16
  go_wp2_with fail
  go_loopw [6] (fun n wr => ∃ k : Nat, k ≤ c ∧ n = .int .i64 k ∧ wr = w.iter s (offs s k)) (fun n _ => c - (intOf n).toNat)
  case atStart => exact ⟨0, by omega, rfl, rfl⟩
  case round =>
    obtain ⟨k, hk, rfl, rfl⟩ := hrel
    by_cases hlt : k < c
    · have ho : offs s k < s.size := (cnt_lt HC.out k).2 hlt
      have hnx := fun ty => run_next_any (P := Try.prog) w s (offs s k) ty ho
      have HS : Hid (offs s (k + 1) = offs s k + (Utf8.decode s (offs s k)).2) := offs_succ ho
      have hb : ((k : Int) == x) = false := by simp; omega
      go_wp2_with fail
      go_roundw
      case rel => exact ⟨k + 1, by omega, by go_num, by rw [HS.out]⟩
      case measure => simp [intOf]; omega
    · have ho : ¬ offs s k < s.size := fun h => hlt ((cnt_lt HC.out k).1 h)
      have hnx := fun ty => run_next_end (P := Try.prog) w s (offs s k) ty ho
      go_wp2_with fail
      go_ret2
      exact ⟨rfl, (Below.refl _ _).alloc (Nat.le_refl _) _⟩

/-- What the cutting function answers: one word for both ways. -/
def pre (s : ByteArray) (x : Int) (c : Nat) : ByteArray × Bool := if x < 0 ∨ (c : Int) ≤ x then (s, true) else (s.extract 0 (offs s x.toNat), false)

theorem prefix_any (s : ByteArray) (hs : s.size ≤ 1000000000) (x : Int) (c : Nat) (hc : IsCnt s c) (hcs : c ≤ s.size) (w : World) :
    Calls Try.prog 16 #[.string s, .int .i64 x] w fun e w' => e = .returned (ansP (pre s x c).1 (pre s x c).2) ∧ Below w.heap.size w w' := by
  by_cases hx : x < 0 ∨ (c : Int) ≤ x
  · rw [pre, if_pos hx]
    exact prefix_whole s hs x c hc hcs hx w
  · rw [pre, if_neg hx]
    exact prefix_cut s hs x x.toNat (by omega) ((cnt_lt hc _).2 (by omega)) w

theorem ZZprefix_any (s : ByteArray) (hs : s.size ≤ 1000000000) (x : Int) (c : Nat) (hc : IsCnt s c) (hcs : c ≤ s.size) (w : World) :
    Calls Try.prog 8 #[.string s, .int .i64 x] w fun e w' => e = .returned (ansP (pre s x c).1 (pre s x c).2) ∧ Below w.heap.size w w' := by
  have H := prefix_any s hs x c hc hcs w
  generalize (pre s x c).1 = p at *
  generalize (pre s x c).2 = q at *
  clear hc
  unfold ansP at *
  go_enter Try.func8, Try.ntmps8
  go_wp2_with fail
  refine H.mono ?_
  rintro e w' ⟨rfl, hb⟩
  go_wp2_with fail
  go_ret2
  exact ⟨rfl, hb⟩

/-- What CutTo answers. -/
def cutv (s : ByteArray) (x : Int) (c : Nat) : ByteArray := if x < 0 ∨ (c : Int) ≤ x then s else s.extract 0 (offs s x.toNat) ++ dots

set_option maxRecDepth 100000 in
set_option maxHeartbeats 1000000 in
theorem CutTo_any (s : ByteArray) (hs : s.size ≤ 1000000000) (x : Int) (c : Nat) (hc : IsCnt s c) (hcs : c ≤ s.size) (w : World) :
    Calls Try.prog 14 #[.string s, .int .i64 x] w fun e w' => e = .returned (.string (cutv s x c)) ∧ Below w.heap.size w w' := by
  have H := prefix_any s hs x c hc hcs w
  unfold ansP at H
  by_cases hx : x < 0 ∨ (c : Int) ≤ x
  · rw [pre, if_pos hx] at H
    rw [cutv, if_pos hx]
    clear hx hc
    go_enter Try.func14, Try.ntmps14
    go_wp2_with fail
    refine H.mono ?_
    rintro e w' ⟨rfl, hb⟩
    go_wp2_with fail
    go_ret
    exact ⟨rfl, hb⟩
  · rw [pre, if_neg hx] at H
    rw [cutv, if_neg hx]
    have hsz := head_size s (offs s x.toNat) (offs_le _ _)
    have hle := offs_le s x.toNat
    generalize s.extract 0 (offs s x.toNat) = p at *
    clear hx hc
    go_enter Try.func14, Try.ntmps14
    go_wp2_with fail
    refine H.mono ?_
    rintro e w' ⟨rfl, hb⟩
    go_wp2_with fail
    all_goals go_ret
    exact ⟨rfl, hb⟩

end Go.Proofs.Qxb6605293a
