import Derived.Test.Qxb6602779aParts
namespace Go.Proofs.Qxb6602779a.Start
open Go.RowKit Parts

theorem lt_of_some {w : World} {g : Nat} {o : Obj} (h : w.heap[g]? = some o) : g < w.heap.size := by
  by_cases hg : g < w.heap.size
  · exact hg
  · rw [Array.getElem?_eq_none (by omega)] at h; cases h
/-- 'ZZNewStatusKeeper' -/
theorem new_any (w : World) (x y z : ByteArray) (b : Option Addr) (n c : Nat) :
    Calls Try.prog 13 #[.string x, .string y, .string z, .slice b n c] w fun r w' => r = .returned (.pointer (some ⟨w.heap.size, 0, none⟩)) ∧ w' = w.alloc (.cells #[.string x, .string y, .string z, .slice b n c] 42) := by
  go_enter Try.func13, Try.ntmps13
  go_wp2
  go_ret
  exact ⟨rfl, rfl⟩
/-- The event behind 'Start'. -/
def ev : Bool → Array Value
  | true => #[.string ⟨#[]⟩, .string ⟨#[]⟩, .string ⟨#[]⟩, .slice none 0 0]
  | false => #[.string ⟨#[80, 82, 79, 86, 73, 68, 69, 82, 95, 82, 69, 65, 68, 89]⟩, .string ⟨#[]⟩, .string ⟨#[]⟩, .slice none 0 0]
/-- Block g holds A; else nothing has turned. -/
structure Upd (g : Nat) (A : Array Value) (w w' : World) : Prop where
  row : w'.heap[g]? = some (.cells A 42 (0, 0))
  grown : w.grownBy w' (some g)
theorem Upd.start {g : Nat} {A : Array Value} {w : World} (h : w.heap[g]? = some (.cells A 42 (0, 0))) : Upd g A w w := ⟨h, ⟨rfl, rfl, rfl, Nat.le_refl _, fun _ _ _ => rfl⟩⟩
theorem Upd.set {g : Nat} {A : Array Value} {w w' : World} (h : Upd g A w w') (i : Nat) (v : Value) : Upd g (A.setIfInBounds i v) w (w'.setCell ⟨g, i, none⟩ v) :=
  ⟨heap_setCell_same _ _ _ _ _ _ h.row, ⟨h.grown.os, h.grown.tape, h.grown.output, by have := h.grown.size; simpa [World.setCell] using this,
    fun k hk hne => by rw [heap_setCell_other _ _ _ _ (fun e => hne (by rw [e]))]; exact h.grown.block k hk hne⟩⟩

theorem Upd.set4 {g : Nat} {A : Array Value} (hA : A.size = 4) {w w' : World} (h : Upd g A w w') (a b c d : Value) :
    Upd g #[a, b, c, d] w ((((w'.setCell ⟨g, 0, none⟩ a).setCell ⟨g, 1, none⟩ b).setCell ⟨g, 2, none⟩ c).setCell ⟨g, 3, none⟩ d) := by
  obtain ⟨l⟩ := A
  match l, hA with
  | [v0, v1, v2, v3], _ =>
  have := (((h.set 0 a).set 1 b).set 2 c).set 3 d
  simpa using this

set_option maxHeartbeats 1000000 in
theorem start_any (w : World) (g : Nat) (A : Array Value) (hA : A.size = 4) (b : Bool) (hg : w.heap[g]? = some (.cells A 42 (0, 0))) :
    Calls Try.prog 14 #[.pointer (some ⟨g, 0, none⟩), .bool b] w fun r w' => r = .returned (.tuple #[]) ∧ Upd g (ev b) w w' := by
  obtain ⟨l⟩ := A
  match l, hA with
  | [v0, v1, v2, v3], _ =>
  have c0 : w.cell? ⟨g, 0, none⟩ = some v0 := by rw [cell_of_row _ _ _ _ _ _ hg]; rfl
  have c1 : w.cell? ⟨g, 1, none⟩ = some v1 := by rw [cell_of_row _ _ _ _ _ _ hg]; rfl
  have c2 : w.cell? ⟨g, 2, none⟩ = some v2 := by rw [cell_of_row _ _ _ _ _ _ hg]; rfl
  have c3 : w.cell? ⟨g, 3, none⟩ = some v3 := by rw [cell_of_row _ _ _ _ _ _ hg]; rfl
  have ff : ∀ j, w.frozen? ⟨g, j, none⟩ = false := fun j => frozen_of_row _ _ _ _ _ hg
  have HG := hide hg
  clear hg
  cases b
  · go_enter Try.func14, Try.ntmps14
    go_wp2
    go_end0
    exact ⟨rfl, ((Upd.start HG.out).set4 rfl _ _ _ _).set4 rfl _ _ _ _⟩
  · go_enter Try.func14, Try.ntmps14
    go_wp2
    go_end0
    exact ⟨rfl, (Upd.start HG.out).set4 rfl _ _ _ _⟩

set_option maxHeartbeats 1000000 in
theorem cause_any (w : World) (g : Nat) (b : Bool) (hg : w.heap[g]? = some (.cells (ev b) 42 (0, 0))) :
    Calls Try.prog 16 #[.pointer (some ⟨g, 0, none⟩)] w fun r w' => r = .returned (.agg (ev b)) ∧ Below w.heap.size w w' := by
  have hlt := lt_of_some hg
  cases b
  all_goals
    have c0 := cell_of_row w g 0 _ _ _ hg
    have c1 := cell_of_row w g 1 _ _ _ hg
    have c2 := cell_of_row w g 2 _ _ _ hg
    have c3 := cell_of_row w g 3 _ _ _ hg
    simp [ev] at c0 c1 c2 c3
    clear hg
    go_enter Try.func16, Try.ntmps16
    go_wp2
    exact bodyPost_ret (v := .agg (ev _)) (by simp [results, Try.results16, go_sem, ev]) rfl ⟨rfl, (Below.refl _ _).alloc (Nat.le_refl _) _⟩

set_option maxHeartbeats 1000000 in
theorem eq_any (w : World) (b : Bool) :
    Calls Try.prog 15 #[.agg (ev b), .agg (ev b)] w fun r w' => r = .returned (.bool true) ∧ Below w.heap.size w w' := by
  have heq := fun w a n c => Lib.run_eql_slice_nil (P := Try.prog) w 22 9 a n c 0 0 Try.underlying22
  cases b
  all_goals
    unfold ev
    go_enter Try.func15, Try.ntmps15
    go_wp2
    go_loop [5] (fun i => i = .int .i64 0) (fun _ => 0)
    case atStart => rfl
    case round =>
      subst hrel
      go_wp2
      go_ret
      exact ⟨rfl, ((Below.refl _ _).alloc (Nat.le_refl _) _).alloc (by simp) _⟩
end Go.Proofs.Qxb6602779a.Start
