/-
  Plain: the places at which the characters of a string begin; how many there are. No Go program here.
-/
import Derived.Test.Qxb6605293aPlain
namespace Go.Proofs.Qxb6605293a

/-- The width of the character at place i. -/
def W (s : ByteArray) (i : Nat) : Nat := (Utf8.decode s i).2

theorem W_zw (s : ByteArray) (i : Nat) : W s i = zw (s.size - i) (s.get! i).toNat (s.get! (i + 1)).toNat (s.get! (i + 2)).toNat (s.get! (i + 3)).toNat := by
  unfold W
  rw [Lib.decode_at]
  exact zw_eq _ _ _ _ _ (UInt8.toNat_lt _) (UInt8.toNat_lt _) (UInt8.toNat_lt _) (UInt8.toNat_lt _)

theorem W_range (s : ByteArray) (i : Nat) (h : i < s.size) : 1 ≤ W s i ∧ i + W s i ≤ s.size ∧ W s i ≤ 4 := by
  rw [W_zw]
  have := zw_range (s.size - i) (s.get! i).toNat (s.get! (i + 1)).toNat (s.get! (i + 2)).toNat (s.get! (i + 3)).toNat (by omega)
  omega

/-- The place of character k, or the end. -/
def offs (s : ByteArray) : Nat → Nat
  | 0 => 0
  | k + 1 => if offs s k < s.size then offs s k + W s (offs s k) else offs s k

theorem offs_succ {s : ByteArray} {k : Nat} (h : offs s k < s.size) : offs s (k + 1) = offs s k + W s (offs s k) := by rw [offs, if_pos h]
theorem offs_stay {s : ByteArray} {k : Nat} (h : ¬ offs s k < s.size) : offs s (k + 1) = offs s k := by rw [offs, if_neg h]

theorem offs_le (s : ByteArray) : ∀ k, offs s k ≤ s.size
  | 0 => by simp [offs]
  | k + 1 => by
    have ih := offs_le s k
    by_cases h : offs s k < s.size
    · rw [offs_succ h]; exact (W_range s _ h).2.1
    · rw [offs_stay h]; exact ih

theorem offs_step (s : ByteArray) (k : Nat) : offs s k ≤ offs s (k + 1) ∧ (offs s k < s.size → offs s k < offs s (k + 1)) := by
  by_cases h : offs s k < s.size
  · have := W_range s _ h
    rw [offs_succ h]; omega
  · rw [offs_stay h]; omega

theorem offs_mono (s : ByteArray) (j : Nat) : ∀ d, offs s j ≤ offs s (j + d)
  | 0 => Nat.le_refl _
  | d + 1 => Nat.le_trans (offs_mono s j d) (offs_step s (j + d)).1

theorem offs_mono' (s : ByteArray) {j k : Nat} (h : j ≤ k) : offs s j ≤ offs s k := by
  obtain ⟨d, rfl⟩ : ∃ d, k = j + d := ⟨k - j, by omega⟩
  exact offs_mono s j d

theorem offs_ge (s : ByteArray) : ∀ k, k ≤ offs s k ∨ offs s k = s.size
  | 0 => .inl (Nat.zero_le _)
  | k + 1 => by
    have hs := offs_step s k
    have hl := offs_le s k
    rcases offs_ge s k with h | h
    · by_cases hk : offs s k < s.size
      · have := hs.2 hk; left; omega
      · right; rw [offs_stay hk]; omega
    · right; rw [offs_stay (by omega)]; exact h

/-- The string holds c characters. -/
def IsCnt (s : ByteArray) (c : Nat) : Prop := offs s c = s.size ∧ ∀ j, j < c → offs s j < s.size

theorem exists_cnt (s : ByteArray) : ∃ c, c ≤ s.size ∧ IsCnt s c := by
  have key : ∀ n, (∃ c, c ≤ n ∧ IsCnt s c) ∨ ∀ j, j ≤ n → offs s j < s.size := by
    intro n
    induction n with
    | zero =>
      by_cases h : offs s 0 < s.size
      · right; intro j hj; rw [show j = 0 from by omega]; exact h
      · left; exact ⟨0, Nat.le_refl _, by have := offs_le s 0; omega, fun j hj => by omega⟩
    | succ n ih =>
      rcases ih with ⟨c, hc, h⟩ | h
      · left; exact ⟨c, by omega, h⟩
      · by_cases hn : offs s (n + 1) < s.size
        · right; intro j hj
          by_cases e : j = n + 1
          · rw [e]; exact hn
          · exact h j (by omega)
        · left; exact ⟨n + 1, Nat.le_refl _, by have := offs_le s (n + 1); omega, fun j hj => h j (by omega)⟩
  rcases key s.size with h | h
  · exact h
  · have h1 := h s.size (Nat.le_refl _)
    have h2 := offs_ge s s.size
    omega

theorem cnt_lt {s : ByteArray} {c : Nat} (h : IsCnt s c) (k : Nat) : offs s k < s.size ↔ k < c := by
  constructor
  · intro hk
    by_cases hc : k < c
    · exact hc
    · have := offs_mono' s (show c ≤ k from by omega)
      rw [h.1] at this; omega
  · exact h.2 k

theorem cnt_end {s : ByteArray} {c : Nat} (h : IsCnt s c) {k : Nat} (hk : c ≤ k) : offs s k = s.size := by
  have := offs_mono' s hk
  have h2 := offs_le s k
  rw [h.1] at this; omega

/-- A string that begins as s does up to character a, and goes on with no continuation byte there. -/
theorem offs_local {s g : ByteArray} {a : Nat} (hc : ∀ j, j < a → offs s j < s.size) (hg : offs s a ≤ g.size) (he : ∀ p, p < offs s a → g.get! p = s.get! p) (hf : ∀ p, offs s a ≤ p → (g.get! p).toNat < 128) :
    ∀ j, j ≤ a → offs g j = offs s j := by
  intro j
  induction j with
  | zero => intro _; rfl
  | succ j ih =>
    intro hj
    have e := ih (by omega)
    have h := hc j (by omega)
    have hs := offs_le s a
    have hst := (offs_step s j).2 h
    have hle2 := offs_mono' s (show j + 1 ≤ a from hj)
    have hw := offs_succ h
    rw [offs_succ (by rw [e]; omega), hw, e]
    congr 1
    generalize offs s j = i at *
    generalize offs s a = m at *
    rw [W_zw, W_zw]
    rw [W_zw] at hw
    have e0 := he i (by omega)
    rw [e0]
    refine zw_local (m - i) (s.size - i) (g.size - i) _ _ _ _ _ _ _ (by omega) (by omega) (by omega) ?_ ?_ ?_ ?_ ?_ ?_
    · intro _; rw [he (i + 1) (by omega)]
    · intro _; rw [he (i + 2) (by omega)]
    · intro _; rw [he (i + 3) (by omega)]
    · intro _; exact hf (i + 1) (by omega)
    · intro _; exact hf (i + 2) (by omega)
    · intro _; exact hf (i + 3) (by omega)

/-! ### cuts and joins of strings -/
theorem get!_list (s : ByteArray) (p : Nat) : s.get! p = s.data.toList.getD p 0 := (Lib.getD_get!' s p).symm

theorem size_list (s : ByteArray) : s.size = s.data.toList.length := by cases s; simp [ByteArray.size]

theorem head_list (s : ByteArray) (m : Nat) : (s.extract 0 m).data.toList = s.data.toList.take m := by
  rw [Lib.extract_data]; simp

theorem head_size (s : ByteArray) (m : Nat) (h : m ≤ s.size) : (s.extract 0 m).size = m := by
  rw [size_list, head_list, List.length_take, ← size_list]; omega

theorem head_get (s : ByteArray) (m p : Nat) (h : p < m) : (s.extract 0 m).get! p = s.get! p := by
  rw [get!_list, get!_list, head_list]
  simp [List.getD_eq_getElem?_getD, h]

theorem get!_beyond (s : ByteArray) (p : Nat) (h : s.size ≤ p) : s.get! p = 0 := by
  rw [get!_list, List.getD_eq_getElem?_getD, List.getElem?_eq_none (by rw [← size_list]; exact h)]; rfl

/-- The head up to character a holds a characters. -/
theorem cnt_head {s : ByteArray} {a : Nat} (hc : ∀ j, j < a → offs s j < s.size) : IsCnt (s.extract 0 (offs s a)) a := by
  have hle := offs_le s a
  have hsz := head_size s (offs s a) hle
  have hloc := offs_local (g := s.extract 0 (offs s a)) hc (by omega) (fun p hp => head_get s _ p hp) (fun p hp => by rw [get!_beyond _ _ (by omega)]; decide)
  refine ⟨by rw [hloc a (Nat.le_refl _), hsz], fun j hj => ?_⟩
  rw [hloc j (by omega), hsz]
  have h1 := (offs_step s j).2 (hc j hj)
  have h2 := offs_mono' s (show j + 1 ≤ a from hj)
  omega

/-- The tail from character a on. -/
theorem offs_tail (s : ByteArray) (a : Nat) : ∀ b, offs s (a + b) = offs s a + offs (s.extract (offs s a) s.size) b
  | 0 => by simp [offs]
  | b + 1 => by
    have ih := offs_tail s a b
    have hsz := Lib.tail_size s (offs s a)
    have hle := offs_le s a
    have hle2 := offs_le s (a + b)
    show offs s (a + b + 1) = _
    by_cases h : offs s (a + b) < s.size
    · rw [offs_succ h, offs_succ (by rw [hsz]; omega), ih]
      unfold W
      rw [Lib.tail_decode]
      omega
    · rw [offs_stay h, offs_stay (by rw [hsz]; omega), ih]

/-- Three dots behind the head. -/
def dots : ByteArray := ⟨#[46, 46, 46]⟩

theorem join_list (x y : ByteArray) : (x ++ y).data.toList = x.data.toList ++ y.data.toList := by
  simp

theorem join_size (x y : ByteArray) : (x ++ y).size = x.size + y.size := by
  rw [size_list, size_list, size_list, join_list, List.length_append]

theorem join_get (x y : ByteArray) (p : Nat) : (x ++ y).get! p = if p < x.size then x.get! p else y.get! (p - x.size) := by
  rw [get!_list, join_list, get!_list, get!_list, List.getD_eq_getElem?_getD, size_list]
  by_cases h : p < x.data.toList.length
  · rw [if_pos h, List.getElem?_append_left h, List.getD_eq_getElem?_getD]
  · rw [if_neg h, List.getElem?_append_right (by omega), List.getD_eq_getElem?_getD]

theorem dots_size : dots.size = 3 := rfl
theorem dots_get (p : Nat) : (dots.get! p).toNat < 128 ∧ (p < 3 → (dots.get! p).toNat = 46) := by
  match p with
  | 0 => decide
  | 1 => decide
  | 2 => decide
  | p + 3 => rw [get!_beyond _ _ (by rw [dots_size]; omega)]; exact ⟨by decide, fun h => by omega⟩

/-- The head up to character a, and three dots: a + 3 characters; and where the last of them begins. -/
theorem cnt_dots {s : ByteArray} {a : Nat} (hc : ∀ j, j < a → offs s j < s.size) :
    IsCnt (s.extract 0 (offs s a) ++ dots) (a + 3) ∧ offs (s.extract 0 (offs s a) ++ dots) (a + 2) = offs s a + 2 := by
  have hle := offs_le s a
  have hh := head_size s (offs s a) hle
  have hsz : (s.extract 0 (offs s a) ++ dots).size = offs s a + 3 := by rw [join_size, hh, dots_size]
  have hget : ∀ p, offs s a ≤ p → ((s.extract 0 (offs s a) ++ dots).get! p).toNat < 128 := by
    intro p hp
    rw [join_get, if_neg (by omega)]
    exact (dots_get _).1
  have hloc := offs_local (g := s.extract 0 (offs s a) ++ dots) hc (by omega) (fun p hp => by rw [join_get, if_pos (by omega)]; exact head_get s _ p hp) hget
  have hw : ∀ p, offs s a ≤ p → p < offs s a + 3 → W (s.extract 0 (offs s a) ++ dots) p = 1 := by
    intro p hp hp3
    have := hget p hp
    rw [W_zw]
    refine zw_one ?_ ?_ ?_
    · unfold P2; omega
    · unfold P3; omega
    · unfold P4; omega
  generalize hg : s.extract 0 (offs s a) ++ dots = g at *
  have h0 : offs g a = offs s a := hloc a (Nat.le_refl _)
  have h1 : offs g (a + 1) = offs s a + 1 := by rw [offs_succ (by omega), h0, hw _ (by omega) (by omega)]
  have h2 : offs g (a + 2) = offs s a + 2 := by
    show offs g (a + 1 + 1) = _
    rw [offs_succ (by omega), h1, hw _ (by omega) (by omega)]
  have h3 : offs g (a + 3) = offs s a + 3 := by
    show offs g (a + 2 + 1) = _
    rw [offs_succ (by omega), h2, hw _ (by omega) (by omega)]
  refine ⟨⟨by rw [h3, hsz], fun j hj => ?_⟩, h2⟩
  have := offs_mono' g (show j ≤ a + 2 from by omega)
  omega

end Go.Proofs.Qxb6605293a
