/-
  The walks of space, validValue and validItems, as far as a tower of containers needs them.
-/
import Derived.Test.Qxb6605207aStrWalks2
import Derived.Test.Qxb6605207aPlain
namespace Go.Proofs.Qxb6605207a
open Go.RowKit
set_option linter.unusedVariables false

/-- What validItems and validValue hand back. -/
def ansI (o : Option Nat) : Value := .tuple #[.int .i64 ((o.getD 0 : Nat) : Int), .bool o.isSome]

set_option maxRecDepth 100000 in
set_option maxHeartbeats 1000000 in
/-- 'space' at a byte that is no white space. -/
theorem space_any (b len cap p : Nat) (x c : Int) (hx : x = p) (w : World) (hl : len ≤ 1000000000) (hp : p < len) (hc : w.cell? ⟨b, p, none⟩ = some (.int .u8 c))
    (h1 : c ≠ 32) (h2 : c ≠ 9) (h3 : c ≠ 10) (h4 : c ≠ 13) :
    Calls Try.prog 33 #[.slice (some ⟨b, 0, none⟩) len cap, .int .i64 x] w fun e w' => e = .returned (.int .i64 p) ∧ w' = w := by
  subst hx
  go_enter Try.func33, Try.ntmps33
  go_wp2_with fail
  go_loop [1] (fun q => q = .int .i64 p) (fun _ => 0)
  case atStart => rfl
  case round =>
    subst hrel
    go_wp2_with fail
    go_ret
    exact ⟨rfl, rfl⟩

set_option maxRecDepth 100000 in
set_option maxHeartbeats 1000000 in
/-- 'validValue' at a brace or a bracket: what validItems answers. -/
theorem value_any (b len cap p : Nat) (x c d : Int) (hx : x = p) (o : Option Nat) (w : World) (hl : len ≤ 1000000000) (hp : p < len) (hc : w.cell? ⟨b, p, none⟩ = some (.int .u8 c)) (h1 : c = 123 ∨ c = 91)
    (H : Calls Try.prog 28 #[.slice (some ⟨b, 0, none⟩) len cap, .int .i64 x, .int .i64 d] w fun e w' => e = .returned (ansI o) ∧ w' = w) :
    Calls Try.prog 34 #[.slice (some ⟨b, 0, none⟩) len cap, .int .i64 x, .int .i64 d] w fun e w' => e = .returned (ansI o) ∧ w' = w := by
  subst hx
  unfold ansI at *
  rcases h1 with rfl | rfl
  all_goals
    go_enter Try.func34, Try.ntmps34
    go_wp2_with fail
    refine H.mono ?_
    rintro e w' ⟨rfl, rfl⟩
    go_wp2_with fail
    go_ret2
    exact ⟨rfl, rfl⟩

/-- Too deep. -/
theorem items_deep (b len cap : Nat) (x d : Int) (hd : 10000 < d) (w : World) :
    Calls Try.prog 28 #[.slice (some ⟨b, 0, none⟩) len cap, .int .i64 x, .int .i64 d] w fun e w' => e = .returned (ansI none) ∧ w' = w := by
  go_enter Try.func28, Try.ntmps28
  go_wp2_with fail
  go_ret2
  exact ⟨rfl, rfl⟩

set_option maxRecDepth 100000 in
set_option maxHeartbeats 1000000 in
/-- An empty container. -/
theorem items_base (b len cap p : Nat) (x c c2 d : Int) (hx : x = p) (hd : d ≤ 10000) (w : World) (hl : len ≤ 1000000000) (hp : p + 1 < len)
    (hc : w.cell? ⟨b, p, none⟩ = some (.int .u8 c)) (hc2 : w.cell? ⟨b, p + 1, none⟩ = some (.int .u8 c2)) (h : (c = 123 ∧ c2 = 125) ∨ (c = 91 ∧ c2 = 93)) :
    Calls Try.prog 28 #[.slice (some ⟨b, 0, none⟩) len cap, .int .i64 x, .int .i64 d] w fun e w' => e = .returned (ansI (some (p + 2))) ∧ w' = w := by
  have H := space_any b len cap (p + 1) ((p : Int) + 1) c2 (by omega) w hl hp hc2 (by omega) (by omega) (by omega) (by omega)
  subst hx
  rcases h with ⟨rfl, rfl⟩ | ⟨rfl, rfl⟩
  all_goals
    go_enter Try.func28, Try.ntmps28
    go_wp2_with fail
    refine H.mono ?_
    rintro e w' ⟨rfl, rfl⟩
    go_wp2_with fail
    go_ret2
    exact ⟨rfl, rfl⟩

set_option maxRecDepth 100000 in
set_option maxHeartbeats 2000000 in
/-- An array that holds one container. -/
theorem items_arr (b len cap p q : Nat) (x d : Int) (hx : x = p) (hd0 : -9223372036854775808 ≤ d) (hd : d ≤ 10000) (o : Option Nat) (w : World) (hl : len ≤ 1000000000) (hp : p + 1 < len) (hq : q < len)
    (hc : w.cell? ⟨b, p, none⟩ = some (.int .u8 91)) (hc1 : w.cell? ⟨b, p + 1, none⟩ = some (.int .u8 91)) (hcq : w.cell? ⟨b, q, none⟩ = some (.int .u8 93)) (ho : o = none ∨ o = some q)
    (H34 : ∀ y : Int, y = ((p + 1 : Nat) : Int) → Calls Try.prog 34 #[.slice (some ⟨b, 0, none⟩) len cap, .int .i64 y, .int .i64 (d + 1)] w fun e w' => e = .returned (ansI o) ∧ w' = w) :
    Calls Try.prog 28 #[.slice (some ⟨b, 0, none⟩) len cap, .int .i64 x, .int .i64 d] w fun e w' => e = .returned (ansI (o.map (· + 1))) ∧ w' = w := by
  have H1 : Hid (∀ y : Int, y = ((p + 1 : Nat) : Int) → Calls Try.prog 33 #[.slice (some ⟨b, 0, none⟩) len cap, .int .i64 y] w fun e w' => e = .returned (.int .i64 ((p + 1 : Nat) : Int)) ∧ w' = w) :=
    fun y hy => space_any b len cap (p + 1) y 91 hy w hl hp hc1 (by omega) (by omega) (by omega) (by omega)
  have H2 : Hid (∀ y : Int, y = (q : Int) → Calls Try.prog 33 #[.slice (some ⟨b, 0, none⟩) len cap, .int .i64 y] w fun e w' => e = .returned (.int .i64 (q : Int)) ∧ w' = w) :=
    fun y hy => space_any b len cap q y 93 hy w hl hq hcq (by omega) (by omega) (by omega) (by omega)
  have HV : Hid (∀ y : Int, y = ((p + 1 : Nat) : Int) → Calls Try.prog 34 #[.slice (some ⟨b, 0, none⟩) len cap, .int .i64 y, .int .i64 (d + 1)] w fun e w' => e = .returned (ansI o) ∧ w' = w) := H34
  clear H34
  subst hx
  go_enter Try.func28, Try.ntmps28
  go_wp2_with fail
  refine (H1.out _ (by omega)).mono ?_
  rintro e w' ⟨rfl, rfl⟩
  go_wp2_with fail
  go_loop [1] (fun v => v = .int .i64 ((p + 1 : Nat) : Int)) (fun _ => 0)
  case atStart => rfl
  case round =>
    subst hrel
    go_wp2_with fail
    refine (HV.out _ (by omega)).mono ?_
    rintro e w2 ⟨rfl, rfl⟩
    rcases ho with rfl | rfl
    · unfold ansI
      go_wp2_with fail
      go_ret2
      exact ⟨rfl, rfl⟩
    · unfold ansI
      go_wp2_with fail
      refine (H2.out _ (by simp)).mono ?_
      rintro e w' ⟨rfl, rfl⟩
      go_wp2_with fail
      go_ret2
      exact ⟨rfl, rfl⟩

set_option maxRecDepth 100000 in
set_option maxHeartbeats 2000000 in
/-- An object that holds one container, under the empty name. -/
theorem items_obj (b len cap p q : Nat) (t : Nat → Int) (ht : ∀ k, 0 ≤ t k ∧ t k ≤ 255) (x d : Int) (hx : x = p) (hd0 : -9223372036854775808 ≤ d) (hd : d ≤ 10000) (o : Option Nat) (w : World) (hl : len ≤ 1000000000) (hcap : len ≤ cap) (hp : p + 4 < len) (hq : q < len)
    (hct : ∀ k, k < len → w.cell? ⟨b, k, none⟩ = some (.int .u8 (t k))) (t0 : t p = 123) (t1 : t (p + 1) = 34) (t2 : t (p + 2) = 34) (t3 : t (p + 3) = 58) (t4 : t (p + 4) = 123) (tq : t q = 125)
    (ho : o = none ∨ o = some q)
    (H34 : ∀ y : Int, y = ((p + 4 : Nat) : Int) → Calls Try.prog 34 #[.slice (some ⟨b, 0, none⟩) len cap, .int .i64 y, .int .i64 (d + 1)] w fun e w' => e = .returned (ansI o) ∧ w' = w) :
    Calls Try.prog 28 #[.slice (some ⟨b, 0, none⟩) len cap, .int .i64 x, .int .i64 d] w fun e w' => e = .returned (ansI (o.map (· + 1))) ∧ w' = w := by
  have hc0 := hct p (by omega)
  have hc1 := hct (p + 1) (by omega)
  have hc3 := hct (p + 3) (by omega)
  have hc4 := hct (p + 4) (by omega)
  have hcq := hct q hq
  have HS : Hid (∀ y : Int, y = ((p + 1 : Nat) : Int) → Calls Try.prog 25 #[.slice (some ⟨b, 0, none⟩) len cap, .int .i64 y] w fun e w' => e = .returned (ansS (some (p + 3, false))) ∧ w' = w) := by
    intro y hy
    have h := validString_any t ht b len cap y (p + 1) hy w hl hcap (by omega) hct
    rw [sm0_quote (by omega) (show t (p + 1 + 1) = 34 from t2)] at h
    exact h
  rw [t0] at hc0; rw [t1] at hc1; rw [t3] at hc3; rw [t4] at hc4; rw [tq] at hcq
  have H1 : Hid (∀ y : Int, y = ((p + 1 : Nat) : Int) → Calls Try.prog 33 #[.slice (some ⟨b, 0, none⟩) len cap, .int .i64 y] w fun e w' => e = .returned (.int .i64 ((p + 1 : Nat) : Int)) ∧ w' = w) :=
    fun y hy => space_any b len cap (p + 1) y 34 hy w hl (by omega) hc1 (by omega) (by omega) (by omega) (by omega)
  have H3 : Hid (∀ y : Int, y = ((p + 3 : Nat) : Int) → Calls Try.prog 33 #[.slice (some ⟨b, 0, none⟩) len cap, .int .i64 y] w fun e w' => e = .returned (.int .i64 ((p + 3 : Nat) : Int)) ∧ w' = w) :=
    fun y hy => space_any b len cap (p + 3) y 58 hy w hl (by omega) hc3 (by omega) (by omega) (by omega) (by omega)
  have H4 : Hid (∀ y : Int, y = ((p + 4 : Nat) : Int) → Calls Try.prog 33 #[.slice (some ⟨b, 0, none⟩) len cap, .int .i64 y] w fun e w' => e = .returned (.int .i64 ((p + 4 : Nat) : Int)) ∧ w' = w) :=
    fun y hy => space_any b len cap (p + 4) y 123 hy w hl (by omega) hc4 (by omega) (by omega) (by omega) (by omega)
  have H2 : Hid (∀ y : Int, y = (q : Int) → Calls Try.prog 33 #[.slice (some ⟨b, 0, none⟩) len cap, .int .i64 y] w fun e w' => e = .returned (.int .i64 (q : Int)) ∧ w' = w) :=
    fun y hy => space_any b len cap q y 125 hy w hl hq hcq (by omega) (by omega) (by omega) (by omega)
  have HV : Hid (∀ y : Int, y = ((p + 4 : Nat) : Int) → Calls Try.prog 34 #[.slice (some ⟨b, 0, none⟩) len cap, .int .i64 y, .int .i64 (d + 1)] w fun e w' => e = .returned (ansI o) ∧ w' = w) := H34
  clear H34 ht hct t0 t1 t2 t3 t4 tq
  subst hx
  go_enter Try.func28, Try.ntmps28
  go_wp2_with fail
  refine (H1.out _ (by omega)).mono ?_
  rintro e w' ⟨rfl, rfl⟩
  go_wp2_with fail
  go_loop [1] (fun v => v = .int .i64 ((p + 1 : Nat) : Int)) (fun _ => 0)
  case atStart => rfl
  case round =>
    subst hrel
    go_wp2_with fail
    refine (HS.out _ (by omega)).mono ?_
    rintro e w2 ⟨rfl, rfl⟩
    unfold ansS
    go_wp2_with fail
    refine (H3.out _ (by simp)).mono ?_
    rintro e w3 ⟨rfl, rfl⟩
    go_wp2_with fail
    refine (H4.out _ (by omega)).mono ?_
    rintro e w4 ⟨rfl, rfl⟩
    go_wp2_with fail
    refine (HV.out _ (by omega)).mono ?_
    rintro e w5 ⟨rfl, rfl⟩
    rcases ho with rfl | rfl
    · unfold ansI
      go_wp2_with fail
      go_ret2
      exact ⟨rfl, rfl⟩
    · unfold ansI
      go_wp2_with fail
      refine (H2.out _ (by simp)).mono ?_
      rintro e w' ⟨rfl, rfl⟩
      go_wp2_with fail
      go_ret2
      exact ⟨rfl, rfl⟩

end Go.Proofs.Qxb6605207a
