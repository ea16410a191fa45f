/-
  A tower of nested containers: the text, and what validItems answers at it.
-/
import Derived.Test.Qxb6605207aItems
import Derived.Test.Qxb6605207aPlainNum
namespace Go.Proofs.Qxb6605207a
open Go.RowKit
set_option linter.unusedVariables false

/-- The opening, the innermost container, the closing; of objects, or of arrays. -/
def opn (ob : Bool) : List Int := if ob = true then [123, 34, 34, 58] else [91]
def cor (ob : Bool) : List Int := if ob = true then [123, 125] else [91, 93]
def cls (ob : Bool) : List Int := if ob = true then [125] else [93]

/-- The tower with L containers around the innermost one. -/
def twr (ob : Bool) : Nat → List Int
  | 0 => cor ob
  | L + 1 => opn ob ++ (twr ob L ++ cls ob)
def ups (ob : Bool) : Nat → List Int
  | 0 => []
  | k + 1 => ups ob k ++ opn ob
def dns (ob : Bool) : Nat → List Int
  | 0 => []
  | k + 1 => dns ob k ++ cls ob

theorem ups_front (ob : Bool) : ∀ k, ups ob (k + 1) = opn ob ++ ups ob k
  | 0 => by simp [ups]
  | k + 1 => by
    have h := ups_front ob k
    rw [ups, h, List.append_assoc]
    rw [← ups]; rw [h]

theorem tower_eq (ob : Bool) : ∀ m, ups ob m ++ (cor ob ++ dns ob m) = twr ob m
  | 0 => by simp [ups, dns, twr]
  | m + 1 => by
    rw [twr, ← tower_eq ob m, ups_front, dns]
    simp

theorem ups_len (ob : Bool) : ∀ k, (ups ob k).length ≤ 4 * k
  | 0 => by simp [ups]
  | k + 1 => by
    have := ups_len ob k
    have h : (opn ob).length ≤ 4 := by cases ob <;> simp [opn]
    rw [ups, List.length_append]; omega
theorem dns_len (ob : Bool) : ∀ k, (dns ob k).length ≤ k
  | 0 => by simp [dns]
  | k + 1 => by
    have := dns_len ob k
    have h : (cls ob).length = 1 := by cases ob <;> simp [cls]
    rw [dns, List.length_append]; omega
theorem cor_len (ob : Bool) : (cor ob).length = 2 := by cases ob <;> simp [cor]

theorem twr_bytes (ob : Bool) : ∀ L, ∀ x ∈ twr ob L, 0 ≤ x ∧ x ≤ 255
  | 0 => by
    intro x hx
    cases ob <;> simp [twr, cor] at hx <;> omega
  | L + 1 => by
    intro x hx
    rw [twr, List.mem_append, List.mem_append] at hx
    rcases hx with h | h | h
    · cases ob <;> simp [opn] at h <;> omega
    · exact twr_bytes ob L x h
    · cases ob <;> simp [cls] at h <;> omega

theorem twr_head (ob : Bool) : ∀ L, ∃ r, twr ob L = (if ob = true then 123 else 91) :: r
  | 0 => by cases ob <;> simp [twr, cor]
  | L + 1 => by cases ob <;> simp [twr, opn]

theorem tt_app (A X R : List Int) (j : Nat) (hj : j < X.length) : tt (A ++ (X ++ R)) (A.length + j) = X.getD j 0 := by
  rw [tt_at, List.getD_eq_getElem?_getD, List.getElem?_append_left hj, List.getD_eq_getElem?_getD]

theorem tower_calls (ob : Bool) (M : List Int) (hM : ∀ k, 0 ≤ tt M k ∧ tt M k ≤ 255) (b cap : Nat) (hlen : M.length ≤ 1000000000) (hcap : M.length ≤ cap) (w : World)
    (hct : ∀ k, k < M.length → w.cell? ⟨b, k, none⟩ = some (.int .u8 (tt M k))) :
    ∀ (L : Nat) (A R : List Int), M = A ++ (twr ob L ++ R) → ∀ x d : Int, x = A.length → -9223372036854775808 ≤ d →
      Calls Try.prog 28 #[.slice (some ⟨b, 0, none⟩) M.length cap, .int .i64 x, .int .i64 d] w fun e w' => e = .returned (ansI (if d + L ≤ 10000 then some (A ++ twr ob L).length else none)) ∧ w' = w := by
  intro L
  induction L with
  | zero =>
    intro A R hMe x d hx hd0
    by_cases hd : d ≤ 10000
    · rw [if_pos (by omega)]
      have h0 : tt M A.length = (cor ob).getD 0 0 := by rw [hMe, twr]; exact tt_app A (cor ob) R 0 (by rw [cor_len]; omega)
      have h1 : tt M (A.length + 1) = (cor ob).getD 1 0 := by rw [hMe, twr]; exact tt_app A (cor ob) R 1 (by rw [cor_len]; omega)
      have hl : A.length + 1 < M.length := by rw [hMe, twr]; simp [cor_len]; omega
      have e : (A ++ twr ob 0).length = A.length + 2 := by rw [twr]; simp [cor_len]
      rw [e]
      refine items_base b M.length cap A.length x _ _ d hx hd w hlen hl (hct _ (by omega)) (hct _ hl) ?_
      rw [h0, h1]
      cases ob <;> simp [cor]
    · rw [if_neg (by omega)]
      exact items_deep b M.length cap x d (by omega) w
  | succ L ih =>
    intro A R hMe x d hx hd0
    by_cases hd : d ≤ 10000
    · have hMi : M = (A ++ opn ob) ++ (twr ob L ++ (cls ob ++ R)) := by rw [hMe, twr]; simp
      have hin := ih (A ++ opn ob) (cls ob ++ R) hMi
      have eo : (if d + 1 + (L : Int) ≤ 10000 then some (A ++ opn ob ++ twr ob L).length else none).map (· + 1) = (if d + ((L + 1 : Nat) : Int) ≤ 10000 then some (A ++ twr ob (L + 1)).length else none) := by
        have hl1 : (cls ob).length = 1 := by cases ob <;> simp [cls]
        by_cases h : d + 1 + (L : Int) ≤ 10000
        · rw [if_pos h, if_pos (by omega), twr]
          simp [hl1]; omega
        · rw [if_neg h, if_neg (by omega)]; rfl
      rw [← eo]
      have hq : (A ++ opn ob ++ twr ob L).length < M.length := by
        have hl1 : (cls ob).length = 1 := by cases ob <;> simp [cls]
        rw [hMi]; simp [hl1]; omega
      have tq : tt M (A ++ opn ob ++ twr ob L).length = (cls ob).getD 0 0 := by
        have : M = (A ++ opn ob ++ twr ob L) ++ (cls ob ++ R) := by rw [hMi]; simp
        rw [this]
        have h := tt_app (A ++ opn ob ++ twr ob L) (cls ob) R 0 (by cases ob <;> simp [cls])
        simpa using h
      have ho : (if d + 1 + (L : Int) ≤ 10000 then some (A ++ opn ob ++ twr ob L).length else none) = none ∨ (if d + 1 + (L : Int) ≤ 10000 then some (A ++ opn ob ++ twr ob L).length else none) = some (A ++ opn ob ++ twr ob L).length := by
        by_cases h : d + 1 + (L : Int) ≤ 10000
        · rw [if_pos h]; exact .inr rfl
        · rw [if_neg h]; exact .inl rfl
      obtain ⟨r, hr⟩ := twr_head ob L
      have hcq := hct _ hq
      cases ob
      · have hln : (A ++ opn false).length = A.length + 1 := by simp [opn]
        have hp : A.length + 1 < M.length := by have := hq; rw [List.length_append, hln] at this; omega
        have t0 : tt M A.length = 91 := by rw [hMe, twr, opn, tt_head]; rfl
        have t1 : tt M (A.length + 1) = 91 := by rw [← hln, hMi, tt_head, hr]; rfl
        have c0 := hct A.length (by omega)
        have c1 := hct (A.length + 1) hp
        rw [t0] at c0
        rw [t1] at c1
        rw [tq] at hcq
        refine items_arr b M.length cap A.length (A ++ opn false ++ twr false L).length x d hx hd0 hd _ w hlen hp hq c0 c1 hcq ho ?_
        intro y hy
        exact value_any b M.length cap (A.length + 1) y 91 (d + 1) hy _ w hlen hp c1 (.inr rfl) (hin y (d + 1) (by rw [hy, hln]) (by omega))
      · have hln : (A ++ opn true).length = A.length + 4 := by simp [opn]
        have hp : A.length + 4 < M.length := by have := hq; rw [List.length_append, hln] at this; omega
        have hMo : M = A ++ (opn true ++ ((twr true L ++ cls true) ++ R)) := by rw [hMe, twr]; simp
        have tj : ∀ j, j < 4 → tt M (A.length + j) = (opn true).getD j 0 := fun j hj => by rw [hMo]; exact tt_app A (opn true) _ j (by simpa [opn] using hj)
        have t0 : tt M A.length = 123 := tj 0 (by omega)
        have t1 : tt M (A.length + 1) = 34 := tj 1 (by omega)
        have t2 : tt M (A.length + 2) = 34 := tj 2 (by omega)
        have t3 : tt M (A.length + 3) = 58 := tj 3 (by omega)
        have t4 : tt M (A.length + 4) = 123 := by rw [← hln, hMi, tt_head, hr]; rfl
        have c4 := hct (A.length + 4) hp
        rw [t4] at c4
        refine items_obj b M.length cap A.length (A ++ opn true ++ twr true L).length (tt M) hM x d hx hd0 hd _ w hlen hcap hp hq hct t0 t1 t2 t3 t4 tq ho ?_
        intro y hy
        exact value_any b M.length cap (A.length + 4) y 123 (d + 1) hy _ w hlen hp c4 (.inl rfl) (hin y (d + 1) (by rw [hy, hln]) (by omega))
    · rw [if_neg (by omega)]
      exact items_deep b M.length cap x d (by omega) w

end Go.Proofs.Qxb6605207a
