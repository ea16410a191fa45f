/-
  A slice of bytes that the law's own call has made: what it holds, as numbers; one append.
-/
import Derived.Test.Qxb6605207aRows
import Derived.Test.Qxb6605207aPlain
import Derived.WalkKit
import Derived.WalkSpells
import Derived.WalkLawsBesides
import Derived.Deep.DeepCutAuto
import Derived.Deep.CutBlock
import Derived.Deep.Light
namespace Go.Proofs.Qxb6605207a
open Go.RowKit
set_option linter.unusedVariables false

theorem Try.info5 : (Try.prog.info? 5).map (fun i => (i.zero, i.size, i.bytes)) = some (some (.int .u8 0), 1, 1) := by kernel_rfl

/-- In the world wr the slice v owns the bytes L (in blocks from B on); below B the world is as w was. -/
structure Own (B : Nat) (w wr : World) (v : Value) (L : List Int) : Prop where
  own : wr.ownsRow B 5 1 v L.length (L.map (Value.int .u8))
  bel : Below B w wr
  size : B ≤ wr.heap.size

theorem Own.block {B : Nat} {w wr : World} {v : Value} {L : List Int} (h : Own B w wr v L) : ∀ k, v.ownBlock = some k → B ≤ k := fun k hk => (h.own.lt k hk).1

theorem Own.alloc {B : Nat} {w wr : World} {v : Value} {L : List Int} (h : Own B w wr v L) (o : Obj) : Own B w (wr.alloc o) v L :=
  ⟨h.own.alloc o, h.bel.alloc h.size o, by have := h.size; simp; omega⟩

/-- What is owned is a slice at a block's head. -/
theorem Own.shape {B : Nat} {w wr : World} {v : Value} {L : List Int} (h : Own B w wr v L) (hn : L ≠ []) :
    ∃ g cap, v = .slice (some ⟨g, 0, none⟩) L.length cap ∧ L.length ≤ cap ∧ cap ≤ maxLen ∧ B ≤ g ∧ g < wr.heap.size ∧ ∀ k, k < L.length → wr.cell? ⟨g, k, none⟩ = some (.int .u8 (L.getD k 0)) := by
  obtain ⟨hl, h1 | ⟨g, cap, cur, rfl, hB, hh, h2, h3, h4, h5⟩⟩ := h.own
  · exact absurd (List.length_eq_zero_iff.1 h1.2) hn
  · have hlt := (h.own.lt g rfl).2
    refine ⟨g, cap, rfl, h2, h3, hB, hlt, fun k hk => ?_⟩
    have := h.own.cellAt (g := g) k (by omega)
    rw [this]
    simp [List.getElem?_eq_getElem hk]

/-- 'text = append(text, news...)', the new bytes at whatever address. -/
theorem app_law_at {ops : Array Oper} {rest : List Oper} {o : Oper} {a : Act} {Q : Exit → Act → World → Prop} (hgd : o.guard = none) (s x : Operand)
    (ho : o.op = .call { callee := .builtin .append, args := #[s, x], argTypes := #[22, 22] })
    (B : Nat) (w wr : World) (v : Value) (L news : List Int) (ad : Addr) (m c : Nat) (hm : news.length = m)
    (hs : a.eval s = v) (hown : Own B w wr v L) (hx : a.eval x = .slice (some ad) m c) (hnews : ∀ j u, (news.map (Value.int .u8))[j]? = some u → wr.cell? (ad.add j) = some u) (hlen : L.length + m ≤ 1000000000)
    (h : ∀ v' w', Own B w w' v' (L ++ news) → wpList Try.prog ops Q rest (a.put o.dst v') w') : wpList Try.prog ops Q (o :: rest) a wr := by
  obtain ⟨i0, hi, hz0, hz1, hz2⟩ := info_parts Try.info5
  refine wpList_append_own _ hgd s x 22 ho B 5 i0 (.int .u8 0) 1 1 Try.underlying22 hi hz0 hz1 hz2 rfl (by decide) v _ _ hs hown.own ad m c (news.map (Value.int .u8)) hx (by simp [hm]) hnews (ints_oneCell _ _) (by unfold maxLen; omega) (by omega) hown.size ?_
  intro v' w' h1 h2 h3
  refine h v' w' ⟨?_, ?_, ?_⟩
  · have e : (L ++ news).length = L.length + m := by simp [hm]
    rw [e, List.map_append]; exact h1
  · exact hown.bel.grown h2 hown.size hown.block
  · have := h2.size; have := hown.size; omega

/-- 'text = append(text, news...)', the new bytes just laid in a block of their own. -/
theorem app_law {ops : Array Oper} {rest : List Oper} {o : Oper} {a : Act} {Q : Exit → Act → World → Prop} (hgd : o.guard = none) (s x : Operand)
    (ho : o.op = .call { callee := .builtin .append, args := #[s, x], argTypes := #[22, 22] })
    (B : Nat) (w wr : World) (v : Value) (L news : List Int) (cs : Array Value) (hcs : cs = (news.map (Value.int .u8)).toArray) (m : Nat) (hm : news.length = m)
    (hs : a.eval s = v) (hown : Own B w wr v L) (hx : a.eval x = .slice (some ⟨wr.heap.size, 0, none⟩) m m) (hlen : L.length + m ≤ 1000000000)
    (h : ∀ v' w', Own B w w' v' (L ++ news) → wpList Try.prog ops Q rest (a.put o.dst v') w') : wpList Try.prog ops Q (o :: rest) a (wr.alloc (.cells cs 5)) := by
  subst hcs
  refine app_law_at hgd s x ho B w _ v L news ⟨wr.heap.size, 0, none⟩ m m hm hs (hown.alloc _) hx ?_ hlen h
  intro j u hj
  rw [Go.WideShapes.add_plain, Nat.zero_add, World.cell?_alloc_new]
  simpa using hj

/-- What zzAppendUint writes: digits; no zero ahead of others. -/
structure Written (ds : List Int) : Prop where
  dig : ∀ d ∈ ds, 48 ≤ d ∧ d ≤ 57
  ne : ds ≠ []
  head : ds.length = 1 ∨ ds.getD 0 0 ≠ 48
  len : ds.length ≤ 20

theorem Try.arrayLen39 : Try.prog.arrayLen 39 = 20 := by kernel_rfl
theorem Try.elem39 : Try.prog.elem 39 = 5 := by kernel_rfl
theorem Try.size5 (W : World) : (sizeOf 5).run Try.prog W = .ok 1 W := by
  obtain ⟨i0, hi, hz0, hz1, hz2⟩ := info_parts Try.info5
  simp [sizeOf, typeInfo, hi, hz1]

theorem run_tail (g m : Nat) (hm : m ≤ 19) (W : World) : (Instr.sliceAt 39 (.pointer (some ⟨g, 0, none⟩)) (some (.int .i64 m)) none none).run Try.prog W = .ok (.slice (some ⟨g, m, none⟩) (20 - m) (20 - m)) W := by
  rw [run_sliceAt_array_l W 39 ⟨g, 0, none⟩ (by rw [Try.arrayLen39, Try.elem39]; exact Try.underlying39) .i64 m (by omega) (by rw [Try.arrayLen39]; omega)]
  rw [Try.arrayLen39, Try.elem39, Try.size5]
  simp [Result.andThen, slicedAt, Go.WideShapes.add_plain]
  omega

set_option maxRecDepth 100000 in
set_option maxHeartbeats 1000000 in
theorem appendUint_any (B : Nat) (w wr : World) (v : Value) (L : List Int) (x : Int) (hx0 : 0 ≤ x) (hx : x ≤ 18446744073709551615) (hown : Own B w wr v L) (hL : L.length ≤ 1000000) :
    Calls Try.prog 13 #[v, .int .u64 x] wr fun e w' => ∃ v' ds, e = .returned v' ∧ Written ds ∧ Own B w w' v' (L ++ ds) := by
  go_enter Try.func13, Try.ntmps13
  go_wp2_with fail
  go_loopw [1, 6] (fun sy sk wc => ∃ (m : Nat) (y : Int) (cs : Array Value) (ds : List Int), m ≤ 19 ∧ 0 ≤ y ∧ y ≤ 18446744073709551615 ∧ Hid (y < 10 ^ (m + 1)) ∧ sy = .int .u64 y ∧ sk = .int .i64 ((m : Int) + 1) ∧
      cs.size = 20 ∧ wc = wr.alloc (.cells cs 39) ∧ Hid (ds.length = 19 - m) ∧ Hid (cs.toList.drop (m + 1) = ds.map (Value.int .u8)) ∧ Hid (∀ d ∈ ds, 48 ≤ d ∧ d ≤ 57) ∧ Hid (ds = [] ∨ y ≠ 0))
    (fun _ sk _ => (intOf sk).toNat)
  case atStart => exact ⟨19, x, _, [], by omega, hx0, hx, by simp only [Hid]; omega, rfl, rfl, rfl, rfl, rfl, rfl, by simp [Hid], .inl rfl⟩
  case round =>
    obtain ⟨m, y, cs, ds, hm, hy0, hy1, Hy, rfl, rfl, hcs, rfl, Hl, Hd, Hg, Hz⟩ := hrel
    have hsl := run_tail wr.heap.size m hm
    obtain ⟨u, hu⟩ : ∃ u, cs[m]? = some u := ⟨cs[m]'(by omega), by simp⟩
    have Hd2 : Hid ((cs.setIfInBounds m (Value.int .u8 (48 + y % 10))).toList.drop m = ((48 + y % 10) :: ds).map (Value.int .u8)) := by
      simp only [Hid, List.map_cons, ← Hd.out, Array.toList_setIfInBounds]
      rw [List.drop_eq_getElem_cons (by simp; omega), List.drop_set, if_pos (by omega)]
      simp
    have Hg2 : Hid (∀ d ∈ (48 + y % 10) :: ds, 48 ≤ d ∧ d ≤ 57) := by
      intro d hd
      rcases List.mem_cons.1 hd with rfl | hd
      · omega
      · exact Hg.out d hd
    have Hl2 : Hid (((48 + y % 10) :: ds).length = 20 - m) := by have := Hl.out; simp only [Hid, List.length_cons]; omega
    by_cases hz : y / 10 = 0
    · have hzb : (y / 10 == 0) = true := by simp [hz]
      have HW : Hid (Written ((48 + y % 10) :: ds)) := by
        refine ⟨Hg2.out, by simp, ?_, by rw [Hl2.out]; omega⟩
        rcases Hz.out with h | h
        · left; simp [h]
        · right; simp; omega
      clear hz
      go_wp2_with (at_builtin; refine app_law_at rfl _ _ rfl B w _ v L ((48 + y % 10) :: ds) ⟨wr.heap.size, m, none⟩ (20 - m) (20 - m) Hl2.out rfl (hown.alloc _) rfl ?hn (by omega) ?_)
      case hn =>
        intro j u hj
        rw [← Hd2.out, List.getElem?_drop] at hj
        rw [Go.WideShapes.add_plain, World.cell?_alloc_new]
        rwa [Array.getElem?_toList] at hj
      intro v' w' hown'
      go_wp2_with fail
      go_ret
      exact ⟨v', _, rfl, HW.out, hown'⟩
    · have hzb : (y / 10 == 0) = false := by simp [hz]
      have Hpow : Hid (1 ≤ m ∧ y / 10 < 10 ^ m) := by
        have h1 := Hy.out
        have h2 : (10 : Int) ^ (m + 1) = 10 ^ m * 10 := Int.pow_succ _ _
        have h3 : y / 10 < 10 ^ m := by omega
        refine ⟨?_, h3⟩
        match m, h3 with
        | 0, h3 => simp at h3; omega
        | m + 1, _ => omega
      clear hz
      go_wp2_with fail
      go_roundw
      case rel =>
        obtain ⟨hm1, hp⟩ := Hpow.out
        refine ⟨m - 1, y / 10, _, (48 + y % 10) :: ds, by omega, by omega, by omega, ?_, rfl, ?_, ?_, rfl, ?_, ?_, Hg2, ?_⟩
        · rw [Nat.sub_add_cancel hm1]; exact hp
        · have : (((m - 1 : Nat) : Int) + 1) = (m : Int) := by omega
          rw [this]
        · simp [hcs]
        · have := Hl2.out; simp only [Hid]; omega
        · rw [Nat.sub_add_cancel hm1]; exact Hd2
        · right; simpa using hzb
      case measure => simp [intOf]

end Go.Proofs.Qxb6605207a
