import Derived.Test.Qxb6602659aProg
import Derived.WalkKit
import Derived.Deep.QuietTactic
import Derived.BigQuiet
namespace Go.Proofs.Qxb6602659a.Win
open Go.RowKit

theorem hide {p : Prop} (h : p) : Hid p := h
/-- The bytes as cells. -/
def cells (l : List Int) : Array Value := (l.map (Value.int .u8)).toArray
theorem cells_at (l : List Int) (j : Nat) (h : j < l.length) : (cells l)[j]? = some (.int .u8 (l.getD j 0)) := by
  simp [cells, h]
theorem cells_set (l : List Int) (j : Nat) (v : Int) : (cells l).setIfInBounds j (.int .u8 v) = cells (l.set j v) := by
  simp [cells, List.map_set]
theorem cells_size (l : List Int) : (cells l).size = l.length := by simp [cells]
/-- A window: its buffer is block g, itself block H. -/
structure Win (w : World) (g H : Nat) (l : List Int) (e f p : Int) : Prop where
  buf : w.heap[g]? = some (.cells (cells l) 5 (0, 0))
  box : w.heap[H]? = some (.cells #[.slice (some ⟨g, 0, none⟩) l.length l.length, .int .i64 e, .int .i64 f, .int .i64 p] 42 (0, 0))
  ne : g ≠ H
/-- Only the blocks g and H have turned. -/
structure Two (g H : Nat) (w w' : World) : Prop where
  os : w'.os = w.os
  tape : w'.tape = w.tape
  output : w'.output = w.output
  size : w'.heap.size = w.heap.size
  block : ∀ k, k ≠ g → k ≠ H → w'.heap[k]? = w.heap[k]?
theorem Two.refl (g H : Nat) (w : World) : Two g H w w := ⟨rfl, rfl, rfl, rfl, fun _ _ _ => rfl⟩
theorem Two.drew {g H : Nat} {a w : World} (h : Two g H a w) : Two g H a w.drew := ⟨h.os, h.tape, h.output, h.size, h.block⟩
theorem Two.setg {g H : Nat} {a w : World} (h : Two g H a w) (i : Nat) (v : Value) : Two g H a (w.setCell ⟨g, i, none⟩ v) :=
  ⟨h.os, h.tape, h.output, by simpa [World.setCell] using h.size, fun k h1 h2 => by rw [heap_setCell_other _ _ _ _ h1]; exact h.block k h1 h2⟩
theorem Two.setH {g H : Nat} {a w : World} (h : Two g H a w) (i : Nat) (v : Value) : Two g H a (w.setCell ⟨H, i, none⟩ v) :=
  ⟨h.os, h.tape, h.output, by simpa [World.setCell] using h.size, fun k h1 h2 => by rw [heap_setCell_other _ _ _ _ h2]; exact h.block k h1 h2⟩
theorem Win.drew {w : World} {g H : Nat} {l : List Int} {e f p : Int} (h : Win w g H l e f p) : Win w.drew g H l e f p := ⟨h.buf, h.box, h.ne⟩
theorem Win.drewN {w : World} {g H : Nat} {l : List Int} {e f p : Int} (h : Win w g H l e f p) (n : Nat) : Win (w.drewN n) g H l e f p := ⟨h.buf, h.box, h.ne⟩
theorem Two.drewN {g H : Nat} {a w : World} (h : Two g H a w) (n : Nat) : Two g H a (w.drewN n) := ⟨h.os, h.tape, h.output, h.size, h.block⟩
theorem Win.setb {w : World} {g H : Nat} {l : List Int} {e f p : Int} (h : Win w g H l e f p) (i : Nat) (v : Int) : Win (w.setCell ⟨g, i, none⟩ (.int .u8 v)) g H (l.set i v) e f p :=
  ⟨by rw [← cells_set]; exact heap_setCell_same _ _ _ _ _ _ h.buf, by rw [heap_setCell_other _ _ _ _ (Ne.symm h.ne), List.length_set]; exact h.box, h.ne⟩
theorem Win.sete {w : World} {g H : Nat} {l : List Int} {e f p : Int} (h : Win w g H l e f p) (v : Int) : Win (w.setCell ⟨H, 1, none⟩ (.int .i64 v)) g H l v f p :=
  ⟨by rw [heap_setCell_other _ _ _ _ h.ne]; exact h.buf, heap_setCell_same _ _ _ _ _ _ h.box, h.ne⟩
theorem Win.setf {w : World} {g H : Nat} {l : List Int} {e f p : Int} (h : Win w g H l e f p) (v : Int) : Win (w.setCell ⟨H, 2, none⟩ (.int .i64 v)) g H l e v p :=
  ⟨by rw [heap_setCell_other _ _ _ _ h.ne]; exact h.buf, heap_setCell_same _ _ _ _ _ _ h.box, h.ne⟩
theorem Win.setp {w : World} {g H : Nat} {l : List Int} {e f p : Int} (h : Win w g H l e f p) (v : Int) : Win (w.setCell ⟨H, 3, none⟩ (.int .i64 v)) g H l e f v :=
  ⟨by rw [heap_setCell_other _ _ _ _ h.ne]; exact h.buf, heap_setCell_same _ _ _ _ _ _ h.box, h.ne⟩
theorem Win.c0 {w : World} {g H : Nat} {l : List Int} {e f p : Int} (h : Win w g H l e f p) : w.cell? ⟨H, 0, none⟩ = some (.slice (some ⟨g, 0, none⟩) l.length l.length) := by
  rw [cell_of_row _ _ _ _ _ _ h.box]; rfl
theorem Win.c1 {w : World} {g H : Nat} {l : List Int} {e f p : Int} (h : Win w g H l e f p) : w.cell? ⟨H, 1, none⟩ = some (.int .i64 e) := by
  rw [cell_of_row _ _ _ _ _ _ h.box]; rfl
theorem Win.c2 {w : World} {g H : Nat} {l : List Int} {e f p : Int} (h : Win w g H l e f p) : w.cell? ⟨H, 2, none⟩ = some (.int .i64 f) := by
  rw [cell_of_row _ _ _ _ _ _ h.box]; rfl
theorem Win.c3 {w : World} {g H : Nat} {l : List Int} {e f p : Int} (h : Win w g H l e f p) : w.cell? ⟨H, 3, none⟩ = some (.int .i64 p) := by
  rw [cell_of_row _ _ _ _ _ _ h.box]; rfl
theorem Win.cb {w : World} {g H : Nat} {l : List Int} {e f p : Int} (h : Win w g H l e f p) (j : Nat) (hj : j < l.length) : w.cell? ⟨g, j, none⟩ = some (.int .u8 (l.getD j 0)) := by
  rw [cell_of_row _ _ _ _ _ _ h.buf]; exact cells_at l j hj
theorem Win.fH {w : World} {g H : Nat} {l : List Int} {e f p : Int} (h : Win w g H l e f p) (j : Nat) : w.frozen? ⟨H, j, none⟩ = false := frozen_of_row _ _ _ _ _ h.box
theorem Win.fg {w : World} {g H : Nat} {l : List Int} {e f p : Int} (h : Win w g H l e f p) (j : Nat) : w.frozen? ⟨g, j, none⟩ = false := frozen_of_row _ _ _ _ _ h.buf

def nextE (m : Nat) (e : Nat) : Nat := if e + 1 = m then 0 else e + 1
def nextF (m : Nat) (f : Nat) : Nat := if f < m then f + 1 else f

set_option maxHeartbeats 1000000 in
theorem put_any (w : World) (g H : Nat) (l : List Int) (e f : Nat) (p b : Int) (hW : Win w g H l e f p) (he : e < l.length) (hf : f ≤ l.length) (hl : l.length ≤ 524288) :
    Calls Try.prog 17 #[.pointer (some ⟨H, 0, none⟩), .int .u8 b] w fun r w' => r = .returned (.tuple #[]) ∧ Win w' g H (l.set e b) (nextE l.length e) (nextF l.length f) (wrap64 (p + 1)) ∧ Two g H w w' := by
  have c0 := hW.c0; have c1 := hW.c1; have c2 := hW.c2; have c3 := hW.c3; have cb := hW.cb e he
  have fH := hW.fH; have fg := hW.fg; have hne := hW.ne
  have HW := hide hW
  clear hW
  generalize hm : l.length = m at *
  have i0 : (0 : Int) ≤ (e : Int) := by omega
  have i1 : (e : Int) < (m : Int) := by omega
  have hp : ((e : Int) + 1 == (m : Int)) = decide (e + 1 = m) := by rw [Bool.eq_iff_iff]; simp; omega
  have n0 : ¬ (g = H) := hne
  have n1 : ¬ (H = g) := fun h => hne h.symm
  by_cases hE : e + 1 = m <;> by_cases hF : f < m
  all_goals simp only [hE, decide_true, decide_false] at hp
  all_goals
    go_enter Try.func17, Try.ntmps17
    go_wp2
    go_region
    go_wp2
    go_quiet (fail)
    go_wp2
    go_quiet (fail)
    go_wp2
    go_end0
    refine ⟨rfl, ?_, ?_⟩
  · rw [show ((nextE m e : Nat) : Int) = 0 by simp [nextE, hE], show ((nextF m f : Nat) : Int) = (f : Int) + 1 by simp [nextF, hF]]
    exact ((((((HW.out.setb e b).sete _).drewN _).sete _).setp _).drewN _).setf _
  · exact (((((((Two.refl g H w).setg _ _).setH _ _).drewN _).setH _ _).setH _ _).drewN _).setH _ _
  · rw [show ((nextE m e : Nat) : Int) = 0 by simp [nextE, hE], show ((nextF m f : Nat) : Int) = (f : Int) by simp [nextF, hF]]
    exact (((((HW.out.setb e b).sete _).drewN _).sete _).setp _).drewN _
  · exact ((((((Two.refl g H w).setg _ _).setH _ _).drewN _).setH _ _).setH _ _).drewN _
  · rw [show ((nextE m e : Nat) : Int) = (e : Int) + 1 by simp [nextE, hE], show ((nextF m f : Nat) : Int) = (f : Int) + 1 by simp [nextF, hF]]
    exact (((((HW.out.setb e b).sete _).drewN _).setp _).drewN _).setf _
  · exact ((((((Two.refl g H w).setg _ _).setH _ _).drewN _).setH _ _).drewN _).setH _ _
  · rw [show ((nextE m e : Nat) : Int) = (e : Int) + 1 by simp [nextE, hE], show ((nextF m f : Nat) : Int) = (f : Int) by simp [nextF, hF]]
    exact ((((HW.out.setb e b).sete _).drewN _).setp _).drewN _
  · exact (((((Two.refl g H w).setg _ _).setH _ _).drewN _).setH _ _).drewN _

theorem grown_of_two {w w1 : World} {g : Nat} {o : Obj} (h : Two g w.heap.size (w.alloc o) w1) : w.grownBy w1 (some g) :=
  ⟨h.os, h.tape, h.output, by rw [h.size]; simp, fun k hk hne => by rw [h.block k (fun e => hne (by rw [e])) (by omega)]; exact heap_alloc_old _ _ hk⟩

set_option maxHeartbeats 1000000 in
/-- 'ZZWindowPut': the window is made anew in a block of its own; buf's own block is written. -/
theorem zzput_any (w : World) (g : Nat) (l : List Int) (e f : Nat) (p b : Int) (hB : w.heap[g]? = some (.cells (cells l) 5 (0, 0))) (he : e < l.length) (hf : f ≤ l.length) (hl : l.length ≤ 524288) :
    Calls Try.prog 10 #[.slice (some ⟨g, 0, none⟩) l.length l.length, .int .i64 e, .int .i64 f, .int .i64 p, .int .u8 b] w fun r w' =>
      r = .returned (.tuple #[.int .i64 (nextE l.length e), .int .i64 (nextF l.length f), .int .i64 (wrap64 (p + 1))]) ∧ w'.heap[g]? = some (.cells (cells (l.set e b)) 5 (0, 0)) ∧ w.grownBy w' (some g) := by
  have hg : g < w.heap.size := by
    by_cases h : g < w.heap.size
    · exact h
    · rw [Array.getElem?_eq_none (by omega)] at hB; cases hB
  have hW0 : Win (w.alloc (.cells #[.slice (some ⟨g, 0, none⟩) l.length l.length, .int .i64 e, .int .i64 f, .int .i64 p] 42)) g w.heap.size l e f p :=
    ⟨by rw [heap_alloc_old _ _ hg]; exact hB, heap_alloc_new _ _, by omega⟩
  have HW := hide hW0
  have HB := hide hB
  clear hW0 hB
  go_enter Try.func10, Try.ntmps10
  go_wp2_with fail
  refine (put_any _ g w.heap.size l e f p b HW.out he hf hl).mono ?_
  rintro r w1 ⟨rfl, hW1, hT⟩
  have c1 := hW1.c1; have c2 := hW1.c2; have c3 := hW1.c3
  have HW1 := hide hW1
  have HT := hide hT
  clear hW1 hT
  go_wp2
  go_quiet (fail)
  go_wp2
  go_ret3
  exact ⟨rfl, HW1.out.buf, grown_of_two (HT.out.drewN _)⟩
end Go.Proofs.Qxb6602659a.Win
