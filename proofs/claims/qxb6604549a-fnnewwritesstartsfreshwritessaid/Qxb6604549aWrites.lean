import Derived.Test.Qxb6604549aReads
namespace Go.Proofs.Qxb6604549a.Parts
open Go.RowKit

/-- The writes after k rounds. -/
structure NW (w wr : World) (g gm ga : Nat) (idl : List Int) (rank : Int) (nodes count k : Nat) (V : Nat → Value) : Prop where
  row : ∃ cur : Array Value, cur.size = count * 42 ∧ wr.heap[g]? = some (.cells cur 43 (0, 0))
  ops : ∀ i, i < count → OpAt wr g (i * 42) (idl.map (Value.int .u8)) rank (decide (i < k)) (if i < k then V i else .slice none 0 0) (heardV gm nodes i) (ansV ga nodes i) (heldV gm nodes i)
  marks : ∃ cur : Array Value, wr.heap[gm]? = some (.cells cur 4 (0, 0)) ∧ ∀ j, j < 2 * nodes * count → cur[j]? = some (.bool false)
  ans : ∃ cur : Array Value, wr.heap[ga]? = some (.cells cur 41 (0, 0)) ∧ ∀ j, j < nodes * count * 5 → cur[j]? = zp[j % 5]?
  below : Below w.heap.size w wr
  own : w.heap.size ≤ g
  ne1 : g < gm
  ne2 : g < ga
theorem NW.start {w wr : World} {g gm ga : Nat} {idl : List Int} {rank : Int} {nodes count : Nat} {V : Nat → Value} (h : NR w wr g gm ga idl rank nodes count count) : NW w wr g gm ga idl rank nodes count 0 V :=
  ⟨h.row, fun i hi => by simpa using h.ops i hi, h.marks, h.ans, h.below, h.own, h.ne1, h.ne2⟩
theorem OpAt.wrote {w : World} {g o : Nat} {ids : List Value} {rank : Int} {heard answered held v : Value} {cur : Array Value} {t : TypeId} (h : OpAt w g o ids rank false (.slice none 0 0) heard answered held) (hr : w.heap[g]? = some (.cells cur t (0, 0))) (hs : o + 42 ≤ cur.size) :
    OpAt ((w.setCell ⟨g, o + 17, none⟩ (.bool true)).setCell ⟨g, o + 18, none⟩ v) g o ids rank true v heard answered held := by
  have h1 := heap_setCell_same _ _ (o + 17) _ _ (.bool true) hr
  have h2 := heap_setCell_same _ _ (o + 18) _ _ v h1
  have hlen := h.len
  refine ⟨fun j x hx => ?_, h.len, fun j x hx => ?_⟩
  · have := h.id j x hx
    have hj := (List.getElem?_eq_some_iff.1 hx).1
    rw [cell_of_row _ _ _ _ _ _ hr] at this
    rw [cell_of_row _ _ _ _ _ _ h2, Array.getElem?_setIfInBounds_ne (by omega), Array.getElem?_setIfInBounds_ne (by omega)]
    exact this
  · have hj : j < 26 := by
      have := (List.getElem?_eq_some_iff.1 hx).1
      rw [opTail_length] at this
      exact this
    rw [cell_of_row _ _ _ _ _ _ h2]
    by_cases e1 : j = 1
    · subst e1
      cases hx
      rw [Array.getElem?_setIfInBounds_ne (by omega)]
      have : o + 17 < cur.size := by omega
      simp [this]
    · by_cases e2 : j = 2
      · subst e2
        cases hx
        have : o + 18 < cur.size := by omega
        simp [this]
      · rw [Array.getElem?_setIfInBounds_ne (by omega), Array.getElem?_setIfInBounds_ne (by omega), ← cell_of_row _ _ _ _ _ _ hr]
        refine h.tail j x ?_
        rw [← hx]
        match j, e1, e2 with
        | 0, _, _ => rfl
        | 1, e, _ => exact absurd rfl e
        | 2, _, e => exact absurd rfl e
        | j + 3, _, _ => rfl
theorem NW.step {w wr : World} {g gm ga : Nat} {idl : List Int} {rank : Int} {nodes count k : Nat} {V : Nat → Value} (h : NW w wr g gm ga idl rank nodes count k V) (hk : k < count) :
    NW w ((wr.setCell ⟨g, k * 42 + 17, none⟩ (.bool true)).setCell ⟨g, k * 42 + 18, none⟩ (V k)) g gm ga idl rank nodes count (k + 1) V := by
  obtain ⟨cur, h1, h2⟩ := h.row
  have n1 := h.ne1
  have n2 := h.ne2
  have e1 := heap_setCell_same _ _ (k * 42 + 17) _ _ (.bool true) h2
  have e2 := heap_setCell_same _ _ (k * 42 + 18) _ _ (V k) e1
  have ho : ∀ b, b ≠ g → ((wr.setCell ⟨g, k * 42 + 17, none⟩ (.bool true)).setCell ⟨g, k * 42 + 18, none⟩ (V k)).heap[b]? = wr.heap[b]? := fun b hb => by
    rw [heap_setCell_other _ _ _ _ hb, heap_setCell_other _ _ _ _ hb]
  refine ⟨⟨_, by simpa using h1, e2⟩, fun i hi => ?_, ?_, ?_, (h.below.setCell h.own _).setCell h.own _, h.own, h.ne1, h.ne2⟩
  · by_cases e : i = k
    · subst e
      have := h.ops i hi
      simp only [Nat.lt_irrefl, decide_false, if_false] at this
      have := this.wrote (v := V i) h2 (by omega)
      simpa using this
    · have h3 := h.ops i hi
      have h4 := (h3.apart (k * 42 + 17) [.bool true] (by simp; omega)).apart (k * 42 + 18) [V k] (by simp; omega)
      have e5 : (i < k + 1) = (i < k) := by apply propext; omega
      simp only [e5]
      exact h4
  · obtain ⟨c, a, b⟩ := h.marks
    exact ⟨c, by rw [ho _ (by omega)]; exact a, b⟩
  · obtain ⟨c, a, b⟩ := h.ans
    exact ⟨c, by rw [ho _ (by omega)]; exact a, b⟩

theorem heard_flags {w wr : World} {g gm ga : Nat} {idl : List Int} {rank : Int} {nodes count k : Nat} {V : Nat → Value} (h : NW w wr g gm ga idl rank nodes count k V) (i : Nat) (hi : i < count) : Flags wr (heardV gm nodes i) nodes ∧ Flags wr (heldV gm nodes i) nodes ∧ Pairs wr (ansV ga nodes i) nodes := by
  obtain ⟨c, a, b⟩ := h.marks
  obtain ⟨c', a', b'⟩ := h.ans
  have hm : 2 * nodes * (i + 1) ≤ 2 * nodes * count := Nat.mul_le_mul_left _ (by omega)
  have hm2 : nodes * (i + 1) ≤ nodes * count := Nat.mul_le_mul_left _ (by omega)
  rw [Nat.mul_add] at hm hm2
  refine ⟨⟨_, _, rfl, fun j hj => ⟨gm, _, rfl, ?_⟩⟩, ⟨_, _, rfl, fun j hj => ⟨gm, _, rfl, ?_⟩⟩, ⟨_, _, rfl, fun j hj => ⟨ga, _, rfl, fun y x hx => ?_⟩⟩⟩
  · rw [cell_of_row _ _ _ _ _ _ a, if_neg (by omega)]; exact b _ (by omega)
  · rw [cell_of_row _ _ _ _ _ _ a, if_neg (by omega)]; exact b _ (by omega)
  · have hy : y < 5 := by
      have := (List.getElem?_eq_some_iff.1 hx).1
      simpa [zp] using this
    rw [cell_of_row _ _ _ _ _ _ a', if_neg (by omega), b' _ (by omega), ← hx, show nodes * i * 5 + j * 5 + y = y + 5 * (nodes * i + j) by omega, Nat.add_mul_mod_self_left, Nat.mod_eq_of_lt hy]
end Go.Proofs.Qxb6604549a.Parts
