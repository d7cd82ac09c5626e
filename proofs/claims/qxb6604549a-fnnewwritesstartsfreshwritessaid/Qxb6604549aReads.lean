import Derived.Test.Qxb6604549aFresh
namespace Go.Proofs.Qxb6604549a.Parts
open Go.RowKit

def zop : Array Value := (List.replicate 16 (Value.int .u8 0) ++ opTail 0 false (.slice none 0 0) (.slice none 0 0) (.slice none 0 0) (.slice none 0 0)).toArray
theorem info43 : (Try.prog.info? 43).map (fun i => (i.zero, i.size, i.bytes)) = some (some (.agg zop), 42, 288) := by kernel_rfl
theorem info4 : (Try.prog.info? 4).map (fun i => (i.zero, i.size, i.bytes)) = some (some (.bool false), 1, 1) := by kernel_rfl
theorem info41 : (Try.prog.info? 41).map (fun i => (i.zero, i.size, i.bytes)) = some (some (.agg zp.toArray), 5, 48) := by kernel_rfl
theorem made_at (z : Array Value) (n j : Nat) (h : j < n) (hz : 0 < z.size) : (madeCells z n)[j]? = z[j % z.size]? := by
  have hm := Nat.mod_lt j hz
  simp [madeCells, h, hm]

def heardV (gm nodes i : Nat) : Value := .slice (some ⟨gm, if nodes = 0 then 0 else 2 * nodes * i, none⟩) nodes nodes
def heldV (gm nodes i : Nat) : Value := .slice (some ⟨gm, if nodes = 0 then 0 else 2 * nodes * i + nodes, none⟩) nodes nodes
def ansV (ga nodes i : Nat) : Value := .slice (some ⟨ga, if nodes = 0 then 0 else nodes * i * 5, none⟩) nodes nodes
/-- The reads after k rounds. -/
structure NR (w wr : World) (g gm ga : Nat) (idl : List Int) (rank : Int) (nodes count k : Nat) : Prop where
  row : ∃ cur : Array Value, cur.size = count * 42 ∧ wr.heap[g]? = some (.cells cur 43 (0, 0))
  ops : ∀ i, i < k → OpAt wr g (i * 42) (idl.map (Value.int .u8)) rank false (.slice none 0 0) (heardV gm nodes i) (ansV ga nodes i) (heldV gm nodes i)
  marks : ∃ cur : Array Value, wr.heap[gm]? = some (.cells cur 4 (0, 0)) ∧ ∀ j, j < 2 * nodes * count → cur[j]? = some (.bool false)
  ans : ∃ cur : Array Value, wr.heap[ga]? = some (.cells cur 41 (0, 0)) ∧ ∀ j, j < nodes * count * 5 → cur[j]? = zp[j % 5]?
  below : Below w.heap.size w wr
  own : w.heap.size ≤ g
  ne1 : g < gm
  ne2 : g < ga
theorem cur_there {w : World} {g n : Nat} {cur : Array Value} {t : TypeId} (hs : cur.size = n) (h : w.heap[g]? = some (.cells cur t (0, 0))) (o m : Nat) (ho : o + m ≤ n) : w.there g o m := fun j hj =>
  ⟨by rw [cell_of_row _ _ _ _ _ _ h]; simp; omega, frozen_of_row _ _ _ _ _ h⟩
theorem heap_setCells_row {g : Nat} {t : TypeId} : ∀ (vs : List Value) (o : Nat) (w : World) (cur : Array Value), w.heap[g]? = some (.cells cur t (0, 0)) → ∃ cur', cur'.size = cur.size ∧ (w.setCells g o vs).heap[g]? = some (.cells cur' t (0, 0))
  | [], _, _, cur, h => ⟨cur, rfl, h⟩
  | v :: r, o, w, cur, h => by
    obtain ⟨c', h1, h2⟩ := heap_setCells_row r (o + 1) (w.setCell ⟨g, o, none⟩ v) _ (heap_setCell_same _ _ _ _ _ _ h)
    exact ⟨c', by simpa using h1, h2⟩
theorem heap_setCells_other {g k : Nat} (hne : k ≠ g) : ∀ (vs : List Value) (o : Nat) (w : World), (w.setCells g o vs).heap[k]? = w.heap[k]?
  | [], _, _ => rfl
  | v :: r, o, w => by
    rw [World.setCells, heap_setCells_other hne r (o + 1) _, heap_setCell_other _ _ _ _ hne]
theorem range_split {w : World} {b o : Nat} {xs ys : List Value} (h : w.rangeAt b o (xs ++ ys)) (n : Nat) (hn : xs.length = n) : w.rangeAt b o xs ∧ w.rangeAt b (o + n) ys := by
  subst hn
  refine ⟨fun j v hv => h j v ?_, fun j v hv => ?_⟩
  · have := (List.getElem?_eq_some_iff.1 hv).1
    rw [List.getElem?_append_left this]; exact hv
  · have := h (xs.length + j) v (by rw [List.getElem?_append_right (by omega), show xs.length + j - xs.length = j by omega]; exact hv)
    rw [← Nat.add_assoc] at this
    exact this
theorem opTail_length (rank : Int) (wr : Bool) (a b c d : Value) : (opTail rank wr a b c d).length = 26 := rfl
theorem OpAt.apart {w : World} {b o : Nat} {ids : List Value} {rank : Int} {wr : Bool} {val heard answered held : Value} (h : OpAt w b o ids rank wr val heard answered held) (o' : Nat) (vs : List Value) (hap : o + 42 ≤ o' ∨ o' + vs.length ≤ o) :
    OpAt (w.setCells b o' vs) b o ids rank wr val heard answered held :=
  ⟨World.rangeAt_setCells_apart h.id _ _ _ (by have := h.len; omega), h.len, World.rangeAt_setCells_apart h.tail _ _ _ (by rw [opTail_length]; omega)⟩
theorem NR.step {w wr : World} {g gm ga : Nat} {idl : List Int} {rank : Int} {nodes count k : Nat} (h : NR w wr g gm ga idl rank nodes count k) (hid : idl.length = 16) (hk : k < count) :
    NR w (wr.drew.setCells g (k * 42) (idl.map (Value.int .u8) ++ opTail rank false (.slice none 0 0) (heardV gm nodes k) (ansV ga nodes k) (heldV gm nodes k))) g gm ga idl rank nodes count (k + 1) := by
  obtain ⟨cur, h1, h2⟩ := h.row
  have hL : (idl.map (Value.int .u8) ++ opTail rank false (.slice none 0 0) (heardV gm nodes k) (ansV ga nodes k) (heldV gm nodes k)).length = 42 := by
    rw [List.length_append, opTail_length, List.length_map, hid]
  have n1 := h.ne1
  have n2 := h.ne2
  refine ⟨?_, fun i hi => ?_, ?_, ?_, ?_, h.own, h.ne1, h.ne2⟩
  · obtain ⟨cur', e1, e2⟩ := heap_setCells_row (t := 43) (idl.map (Value.int .u8) ++ opTail rank false (.slice none 0 0) (heardV gm nodes k) (ansV ga nodes k) (heldV gm nodes k)) (k * 42) wr.drew cur h2
    exact ⟨cur', by omega, e2⟩
  · by_cases e : i = k
    · subst e
      have hr := World.rangeAt_setCells_same wr.drew g (i * 42) (idl.map (Value.int .u8) ++ opTail rank false (.slice none 0 0) (heardV gm nodes i) (ansV ga nodes i) (heldV gm nodes i)) (by rw [hL]; exact cur_there h1 (w := wr.drew) h2 _ _ (by omega))
      obtain ⟨r1, r2⟩ := range_split hr 16 (by simp [hid])
      exact ⟨r1, by simp [hid], r2⟩
    · have ho : OpAt wr.drew g (i * 42) (idl.map (Value.int .u8)) rank false (.slice none 0 0) (heardV gm nodes i) (ansV ga nodes i) (heldV gm nodes i) := ⟨(h.ops i (by omega)).id, (h.ops i (by omega)).len, (h.ops i (by omega)).tail⟩
      exact ho.apart _ _ (.inl (by omega))
  · obtain ⟨c, e1, e2⟩ := h.marks
    exact ⟨c, by rw [heap_setCells_other (by omega)]; exact e1, e2⟩
  · obtain ⟨c, e1, e2⟩ := h.ans
    exact ⟨c, by rw [heap_setCells_other (by omega)]; exact e1, e2⟩
  · exact below_setCells _ h.own _ _ h.below.drew
end Go.Proofs.Qxb6604549a.Parts
