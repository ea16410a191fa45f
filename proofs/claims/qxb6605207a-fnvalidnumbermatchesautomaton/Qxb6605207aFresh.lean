/-
  'fresh := make([]byte, len(text)); copy(fresh, text)': the two laws' common head.
-/
import Derived.Test.Qxb6605207aRows
import Derived.WalkKit
import Derived.WalkSpells
import Derived.WalkLawsBesides
import Derived.Laws.CopyOwn
namespace Go.Proofs.Qxb6605207a
open Go.RowKit
set_option linter.unusedVariables false

theorem Try.infoF5 : (Try.prog.info? 5).map (fun i => (i.zero, i.size, i.bytes)) = some (some (.int .u8 0), 1, 1) := by kernel_rfl
theorem Try.sizeF5 : (Try.prog.info? 5).map (·.size) = some 1 := by kernel_rfl

/-- A new row of n cells, in block g, and nothing old turned. -/
structure Made (w w' : World) (n : Nat) : Prop where
  row : ∃ cur, w'.heap[w.heap.size]? = some (.cells cur 5 (0, 0)) ∧ cur.size = n
  bel : Below w.heap.size w w'
  size : w.heap.size < w'.heap.size

/-- 'make([]byte, n)'. -/
theorem makeFull_law {ops : Array Oper} {rest : List Oper} {o : Oper} {a : Act} {Q : Exit → Act → World → Prop} (hgd : o.guard = none) (l c : Operand)
    (ho : o.op = .makeSlice 22 l c) (w : World) (L C : Int) (n : Nat) (hl : a.eval l = .int .i64 L) (hc : a.eval c = .int .i64 C) (hL : L = n) (hC : C = n) (hn : n ≤ 1000000000)
    (h : ∀ w', Made w w' n → wpList Try.prog ops Q rest (a.put o.dst (.slice (some ⟨w.heap.size, 0, none⟩) n n)) w') : wpList Try.prog ops Q (o :: rest) a w := by
  obtain ⟨i0, hi, hz0, hz1, hz2⟩ := info_parts Try.infoF5
  refine wpList_make_full w hgd l c 22 ho w.heap.size 5 i0 (.int .u8 0) 1 Try.underlying22 hi hz0 hz1 .i64 .i64 L C n hl hc hL hC (by rw [hz2]; omega) (by unfold maxLen; omega) (Nat.le_refl _) ?_
  intro w' h1 h2
  refine h w' ⟨?_, (Below.refl _ _).grown h2 (Nat.le_refl _) (by simp), (h1.lt _ rfl).2⟩
  obtain ⟨_, hn' | ⟨g, cap, cur, hv, _, hh, _, _, h4, _⟩⟩ := h1
  · simp at hn'
  · simp at hv
    obtain ⟨hg, hcap⟩ := hv
    subst hg; subst hcap
    exact ⟨cur, hh, by omega⟩

/-- 'copy(fresh, text)'. -/
theorem copy_law {ops : Array Oper} {rest : List Oper} {o : Oper} {a : Act} {Q : Exit → Act → World → Prop} (hgd : o.guard = none) (d s : Operand)
    (ho : o.op = .call { callee := .builtin .copy, args := #[d, s], argTypes := #[22, 22] }) (w w1 : World) (n cap b off : Nat) (t : Nat → Int)
    (hd : a.eval d = .slice (some ⟨w.heap.size, 0, none⟩) n n) (hs : a.eval s = .slice (some ⟨b, off, none⟩) n cap) (hm : Made w w1 n) (hb : b < w.heap.size)
    (hcell : ∀ k, k < n → w.cell? ⟨b, off + k, none⟩ = some (.int .u8 (t k)))
    (h : ∀ w', (∀ k, k < n → w'.cell? ⟨w.heap.size, k, none⟩ = some (.int .u8 (t k))) → Below w.heap.size w w' → w.heap.size < w'.heap.size → wpList Try.prog ops Q rest (a.put o.dst (goInt n)) w') :
    wpList Try.prog ops Q (o :: rest) a w1 := by
  obtain ⟨cur, hg, hcur⟩ := hm.row
  have hlen : ((List.range n).map (fun k => Value.int .u8 (t k))).length = n := by simp
  have hget : ∀ j, j < n → ((List.range n).map (fun k => Value.int .u8 (t k)))[j]? = some (.int .u8 (t j)) := by
    intro j hj; simp [hj]
  refine wpList_copy_own hgd d s 22 22 ho 5 Try.underlying22 Try.sizeF5 w.heap.size 0 n n ⟨b, off, none⟩ n cap hd hs cur 5 hg ((List.range n).map (fun k => Value.int .u8 (t k))) (by rw [hlen]; simp) ?_ (by rw [hlen, hcur]; omega) ?_ ?_
  · intro j v hj
    have hjn : j < n := by
      by_cases hj2 : j < n
      · exact hj2
      · rw [List.getElem?_eq_none (by rw [hlen]; omega)] at hj; simp at hj
    rw [hget j hjn] at hj
    rw [Go.WideShapes.add_plain, hm.bel.cell (p := ⟨b, off + j, none⟩) hb, hcell j hjn]
    exact hj
  · intro v hv
    simp only [List.mem_map] at hv
    obtain ⟨k, _, rfl⟩ := hv
    rfl
  · rw [hlen]
    refine h _ ?_ (below_setRow hm.bel (Nat.le_refl _) _) (by rw [size_setRow]; exact hm.size)
    intro k hk
    rw [cell_setRow_same _ _ _ _ _ _ _ hg]
    have e : (cur.toList.take 0 ++ ((List.range n).map (fun k => Value.int .u8 (t k)) ++ cur.toList.drop (0 + n))).toArray[k]? = ((List.range n).map (fun k => Value.int .u8 (t k)))[k]? := by
      rw [List.getElem?_toArray, List.take_zero, List.nil_append, List.getElem?_append_left (by rw [hlen]; exact hk)]
    rw [e]
    exact hget k hk

end Go.Proofs.Qxb6605207a
