import Derived.Test.Qxb6605207aRows
import Derived.Test.Qxb6605207aPlain
import Derived.WalkKit
import Derived.WalkSpells
import Derived.WalkLawsBesides
import Derived.Deep.DeepCutAuto
import Derived.Deep.CutBlock
import Derived.Deep.Light
namespace Go.Proofs.Qxb6605207a
open Go.RowKit
set_option linter.unusedVariables false

theorem ret_int {k : IntKind} {a b : Int} (h : a = b) : Ending.returned (.int k a) = .returned (.int k b) := by rw [h]

/-- The closure in validNumber: the place behind the digits from i. -/
theorem digits_any (t : Nat → Int) (ht : ∀ k, 0 ≤ t k ∧ t k ≤ 255) (b len cap bx : Nat) (i : Nat) (w : World) (hl : len ≤ maxLen) (hi : i ≤ len)
    (hx : w.cell? ⟨bx, 0, none⟩ = some (.slice (some ⟨b, 0, none⟩) len cap))
    (hc : ∀ k, k < len → w.cell? ⟨b, k, none⟩ = some (.int .u8 (t k))) :
    Calls Try.prog 32 #[.int .i64 i, .pointer (some ⟨bx, 0, none⟩)] w fun e w' => e = .returned (.int .i64 (dg t len i)) ∧ w' = w := by
  unfold maxLen at hl
  go_enter Try.func32, Try.ntmps32
  go_wp2
  go_loop [0] (fun v => ∃ k : Nat, i ≤ k ∧ k ≤ len ∧ v = .int .i64 k ∧ ∀ j, i ≤ j → j < k → j < len ∧ 48 ≤ t j ∧ t j ≤ 57) (fun v => len - (intOf v).toNat)
  case atStart => exact ⟨i, Nat.le_refl _, hi, rfl, fun j h1 h2 => by omega⟩
  case round =>
    obtain ⟨k, hk1, hk2, rfl, hd⟩ := hrel
    have HD : Hid (∀ j, i ≤ j → j < k → j < len ∧ 48 ≤ t j ∧ t j ≤ 57) := hd
    clear hd
    by_cases hlt : k < len
    · have hck := hc k hlt
      have htk := ht k
      clear hc ht
      go_wp2
      · go_round
        case rel =>
          refine ⟨k + 1, by omega, by omega, by go_num, fun j h1 h2 => ?_⟩
          by_cases e : j = k
          · subst e; exact ⟨hlt, by assumption, by assumption⟩
          · exact HD.out j h1 (by omega)
        case measure => simp [intOf]; omega
      all_goals
        go_ret
        exact ⟨ret_int (by rw [dg_eq t len i k hk1 HD.out (by omega)]), rfl⟩
    · clear hc ht
      go_wp2
      go_ret
      exact ⟨ret_int (by rw [dg_eq t len i k hk1 HD.out (by omega)]), rfl⟩

/-- What validNumber hands back. -/
def ansN (o : Option Nat) : Value := .tuple #[.int .i64 ((o.getD 0 : Nat) : Int), .bool o.isSome]

/-- The text's cells behind the box that validNumber lays. -/
theorem boxed {t : Nat → Int} {b len : Nat} {w : World} {o : Obj} (hb : b < w.heap.size) (hc : ∀ k, k < len → w.cell? ⟨b, k, none⟩ = some (.int .u8 (t k))) :
    ∀ k, k < len → (w.alloc o).cell? ⟨b, k, none⟩ = some (.int .u8 (t k)) := by
  intro k hk
  have := hc k hk
  have h2 := ((Below.refl w.heap.size w).alloc (Nat.le_refl _) o).cell (p := ⟨b, k, none⟩) hb
  rw [h2]; exact this

set_option maxRecDepth 100000 in
set_option maxHeartbeats 4000000 in
theorem validNumber_any (t : Nat → Int) (ht : ∀ k, 0 ≤ t k ∧ t k ≤ 255) (b len cap : Nat) (i : Nat) (w : World) (hl : len ≤ maxLen) (hi : i < len) (hb : b < w.heap.size)
    (hc : ∀ k, k < len → w.cell? ⟨b, k, none⟩ = some (.int .u8 (t k))) :
    Calls Try.prog 22 #[.slice (some ⟨b, 0, none⟩) len cap, .int .i64 i] w fun e w' => e = .returned (ansN (vnum t len i)) ∧ Below w.heap.size w w' := by
  have HD : Hid (∀ (x : Int) (j : Nat), x = j → j ≤ len → Calls Try.prog 32 #[.int .i64 x, .pointer (some ⟨w.heap.size, 0, none⟩)] (w.alloc (.cells #[.slice (some ⟨b, 0, none⟩) len cap] 22)) fun e w' => e = .returned (.int .i64 (dg t len j)) ∧ w' = w.alloc (.cells #[.slice (some ⟨b, 0, none⟩) len cap] 22)) := by
    intro x j hx hj
    subst hx
    exact digits_any t ht b len cap w.heap.size j _ hl hj (by simp) (boxed hb hc)
  have HB : Hid (Below w.heap.size w (w.alloc (.cells #[.slice (some ⟨b, 0, none⟩) len cap] 22))) := (Below.refl _ _).alloc (Nat.le_refl _) _
  unfold maxLen at hl
  have hci := hc i hi
  have HC : Hid (∀ k, k < len → w.cell? ⟨b, k, none⟩ = some (.int .u8 (t k))) := hc
  have HT : Hid (∀ k, 0 ≤ t k ∧ t k ≤ 255) := ht
  clear hc ht
  go_enter Try.func22, Try.ntmps22
  go_upto_if 12 with fail
  go_cut [1] (fun v wc => (∃ j : Nat, j ≤ len ∧ Hid (j = vn0 t i) ∧ v = .int .i64 j) ∧ wc = w.alloc (.cells #[.slice (some ⟨b, 0, none⟩) len cap] 22))
  case first =>
    by_cases h : t i = 45
    · have hh : (t i == 45) = true := by simp [h]
      have Hh : Hid (t i = 45) := h
      clear h
      go_wp2_with fail
      go_meet
      exact ⟨⟨i + 1, by omega, by simp [Hid, vn0, Hh.out], by go_num⟩, rfl⟩
    · have hh : (t i == 45) = false := by simp [h]
      go_wp2_with fail
      go_meet
      exact ⟨⟨i, by omega, by simp [Hid, vn0, h], rfl⟩, rfl⟩
  case rest =>
    obtain ⟨⟨j, hj, Hj, rfl⟩, rfl⟩ := hcut
    clear hci
    go_upto_block 0 with fail
    go_cut [1] (fun v wc => (∃ j1 : Nat, j1 ≤ len ∧ Hid (vn1 t len j = some j1) ∧ v = .int .i64 j1) ∧ wc = w.alloc (.cells #[.slice (some ⟨b, 0, none⟩) len cap] 22))
    case first =>
      by_cases hlt : j < len
      · have hcj := HC.out j hlt
        have htj := HT.out j
        by_cases h0 : t j = 48
        · have hh : (t j == 48) = true := by simp [h0]
          have Hh : Hid (t j = 48) := h0
          clear h0
          go_wp2_with fail
          go_meet
          exact ⟨⟨j + 1, by omega, by simp [Hid, vn1, Hh.out, hlt], by go_num⟩, rfl⟩
        · have hh : (t j == 48) = false := by simp [h0]
          by_cases h1 : 49 ≤ t j ∧ t j ≤ 57
          · obtain ⟨h1, h2⟩ := h1
            have hd := dg_le t len j hj
            go_wp2_with (go_at_call 32; refine (HD.out _ j (by omega) hj).mono ?_; rintro e w' ⟨rfl, rfl⟩)
            go_meet
            exact ⟨⟨dg t len j, hd, by simp [Hid, vn1, h0, hlt, h1, h2], by go_num⟩, rfl⟩
          · have hv : Hid (vnum t len i = none) := by simp [Hid, vnum, ← Hj.out, vn1, h0, h1]
            go_wp2_with fail
            all_goals
              go_ret2
              rw [hv.out]
              exact ⟨rfl, HB.out⟩
      · have hv : Hid (vnum t len i = none) := by simp [Hid, vnum, ← Hj.out, vn1, hlt]
        go_wp2_with fail
        go_ret2
        rw [hv.out]
        exact ⟨rfl, HB.out⟩
    case rest =>
      obtain ⟨⟨j1, hj1, Hj1, rfl⟩, rfl⟩ := hcut
      go_upto_region 9 with fail
      go_cut [61] (fun v wc => v = .bool (decide (j1 < len ∧ t j1 = 46)) ∧ wc = w.alloc (.cells #[.slice (some ⟨b, 0, none⟩) len cap] 22))
      case first =>
        by_cases hlt : j1 < len
        · have hcj := HC.out j1 hlt
          go_wp2_with fail
          go_meet
          refine ⟨?_, rfl⟩
          by_cases e : t j1 = 46 <;> simp [e, hlt]
        · go_wp2_with fail
          go_meet
          exact ⟨by simp [hlt], rfl⟩
      case rest =>
        obtain ⟨rfl, rfl⟩ := hcut
        go_upto_if 61 with fail
        go_cut [1] (fun v wc => (∃ j2 : Nat, j2 ≤ len ∧ Hid (vn2 t len j1 = some j2) ∧ v = .int .i64 j2) ∧ wc = w.alloc (.cells #[.slice (some ⟨b, 0, none⟩) len cap] 22))
        case first =>
          by_cases hd : j1 < len ∧ t j1 = 46
          · have hh : decide (j1 < len ∧ t j1 = 46) = true := by simp [hd]
            have hlt : j1 < len := hd.1
            have HH : Hid (j1 < len ∧ t j1 = 46) := hd
            clear hd
            have hle := dg_le t len (j1 + 1) (by omega)
            by_cases he : dg t len (j1 + 1) = j1 + 1
            · have hv : Hid (vnum t len i = none) := by simp [Hid, vnum, ← Hj.out, Hj1.out, vn2, HH.out, he]
              have hb1 : ((dg t len (j1 + 1) : Int) == (j1 : Int) + 1) = true := by simp; omega
              clear he
              go_wp2_with (go_at_call 32; refine (HD.out _ (j1 + 1) (by omega) (by omega)).mono ?_; rintro e w' ⟨rfl, rfl⟩)
              go_ret2
              rw [hv.out]
              exact ⟨rfl, HB.out⟩
            · have hb1 : ((dg t len (j1 + 1) : Int) == (j1 : Int) + 1) = false := by simp; omega
              go_wp2_with (go_at_call 32; refine (HD.out _ (j1 + 1) (by omega) (by omega)).mono ?_; rintro e w' ⟨rfl, rfl⟩)
              go_meet
              exact ⟨⟨dg t len (j1 + 1), hle, by simp [Hid, vn2, HH.out, he], by go_num⟩, rfl⟩
          · have hh : decide (j1 < len ∧ t j1 = 46) = false := by simpa using hd
            have HH : Hid (¬ (j1 < len ∧ t j1 = 46)) := hd
            clear hd
            go_wp2_with fail
            go_meet
            exact ⟨⟨j1, hj1, by simp only [Hid, vn2]; rw [if_neg HH.out], rfl⟩, rfl⟩
        case rest =>
          obtain ⟨⟨j2, hj2, Hj2, rfl⟩, rfl⟩ := hcut
          go_upto_region 14 with fail
          go_cut [89] (fun v wc => (∃ c : Bool, Hid (c = decide (j2 < len ∧ (t j2 = 101 ∨ t j2 = 69))) ∧ v = .bool c) ∧ wc = w.alloc (.cells #[.slice (some ⟨b, 0, none⟩) len cap] 22))
          case first =>
            by_cases hlt : j2 < len
            · have hcj := HC.out j2 hlt
              by_cases e : t j2 = 101
              · have hh : (t j2 == 101) = true := by simp [e]
                have HE : Hid (t j2 = 101) := e
                clear e
                go_wp2_with fail
                go_meet
                exact ⟨⟨_, by simp [Hid, HE.out, hlt], rfl⟩, rfl⟩
              · have hh : (t j2 == 101) = false := by simp [e]
                go_wp2_with fail
                go_meet
                refine ⟨⟨_, ?_, rfl⟩, rfl⟩
                by_cases e2 : t j2 = 69 <;> simp [Hid, e, e2, hlt]
            · go_wp2_with fail
              go_meet
              exact ⟨⟨_, by simp [Hid, hlt], rfl⟩, rfl⟩
          case rest =>
            obtain ⟨⟨c, Hc, rfl⟩, rfl⟩ := hcut
            cases c
            case true =>
              have hd : j2 < len ∧ (t j2 = 101 ∨ t j2 = 69) := by simpa using Hc.out.symm
              have hlt : j2 < len := hd.1
              have HH : Hid (j2 < len ∧ (t j2 = 101 ∨ t j2 = 69)) := hd
              clear hd
              go_upto_region 16 with fail
              go_cut [109] (fun v wc => v = .bool (decide (j2 + 1 < len ∧ (t (j2 + 1) = 43 ∨ t (j2 + 1) = 45))) ∧ wc = w.alloc (.cells #[.slice (some ⟨b, 0, none⟩) len cap] 22))
              case first =>
                by_cases hl2 : j2 + 1 < len
                · have hcj := HC.out (j2 + 1) hl2
                  by_cases e : t (j2 + 1) = 43
                  · have hh : (t (j2 + 1) == 43) = true := by simp [e]
                    have HE : Hid (t (j2 + 1) = 43) := e
                    clear e
                    go_wp2_with fail
                    go_meet
                    exact ⟨by simp [HE.out, hl2], rfl⟩
                  · have hh : (t (j2 + 1) == 43) = false := by simp [e]
                    go_wp2_with fail
                    go_meet
                    refine ⟨?_, rfl⟩
                    by_cases e2 : t (j2 + 1) = 45 <;> simp [e, e2, hl2]
                · go_wp2_with fail
                  go_meet
                  exact ⟨by simp [hl2], rfl⟩
              case rest =>
                obtain ⟨rfl, rfl⟩ := hcut
                go_upto_if 109 with fail
                go_cut [1] (fun v wc => (∃ j3 : Nat, j3 ≤ len ∧ Hid (vn3s t len (j2 + 1) = j3) ∧ v = .int .i64 j3) ∧ wc = w.alloc (.cells #[.slice (some ⟨b, 0, none⟩) len cap] 22))
                case first =>
                  by_cases hs : j2 + 1 < len ∧ (t (j2 + 1) = 43 ∨ t (j2 + 1) = 45)
                  · have hsb : decide (j2 + 1 < len ∧ (t (j2 + 1) = 43 ∨ t (j2 + 1) = 45)) = true := by simp [hs]
                    have hl2 : j2 + 1 < len := hs.1
                    have HS : Hid (j2 + 1 < len ∧ (t (j2 + 1) = 43 ∨ t (j2 + 1) = 45)) := hs
                    clear hs
                    go_wp2_with fail
                    go_meet
                    exact ⟨⟨j2 + 1 + 1, by omega, by simp only [Hid, vn3s]; rw [if_pos HS.out], by go_num⟩, rfl⟩
                  · have hsb : decide (j2 + 1 < len ∧ (t (j2 + 1) = 43 ∨ t (j2 + 1) = 45)) = false := by simpa using hs
                    have HS : Hid (¬ (j2 + 1 < len ∧ (t (j2 + 1) = 43 ∨ t (j2 + 1) = 45))) := hs
                    clear hs
                    go_wp2_with fail
                    go_meet
                    exact ⟨⟨j2 + 1, by omega, by simp only [Hid, vn3s]; rw [if_neg HS.out], by go_num⟩, rfl⟩
                case rest =>
                  obtain ⟨⟨j3, hj3, Hj3, rfl⟩, rfl⟩ := hcut
                  have hle := dg_le t len j3 hj3
                  by_cases he : dg t len j3 = j3
                  · have hv : Hid (vnum t len i = none) := by simp [Hid, vnum, ← Hj.out, Hj1.out, Hj2.out, vn3, HH.out, he, Hj3.out]
                    have hb1 : ((dg t len j3 : Int) == (j3 : Int)) = true := by simp; omega
                    clear he
                    go_wp2_with (go_at_call 32; refine (HD.out _ j3 (by omega) (by omega)).mono ?_; rintro e w' ⟨rfl, rfl⟩)
                    go_ret2
                    rw [hv.out]
                    exact ⟨rfl, HB.out⟩
                  · have hv : Hid (vnum t len i = some (dg t len j3)) := by simp [Hid, vnum, ← Hj.out, Hj1.out, Hj2.out, vn3, HH.out, he, Hj3.out]
                    have hb1 : ((dg t len j3 : Int) == (j3 : Int)) = false := by simp; omega
                    go_wp2_with (go_at_call 32; refine (HD.out _ j3 (by omega) (by omega)).mono ?_; rintro e w' ⟨rfl, rfl⟩)
                    go_ret2
                    rw [hv.out]
                    exact ⟨rfl, HB.out⟩
            case false =>
              have hd : ¬ (j2 < len ∧ (t j2 = 101 ∨ t j2 = 69)) := by have h := Hc.out.symm; rwa [decide_eq_false_iff_not] at h
              have hv : Hid (vnum t len i = some j2) := by
                simp only [Hid, vnum, ← Hj.out, Hj1.out, Option.bind_some, Hj2.out, vn3]; rw [if_neg hd]
              clear hd
              go_wp2_with fail
              go_ret2
              rw [hv.out]
              exact ⟨rfl, HB.out⟩

end Go.Proofs.Qxb6605207a
