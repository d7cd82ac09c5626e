import Derived.Test.Qxb6602659aWin
import Derived.Laws.CopyOwn
import Derived.WalkSpells
namespace Go.Proofs.Qxb6602659a.Win
open Go.RowKit

theorem info5 : (Try.prog.info? 5).map (fun i => (i.zero, i.size, i.bytes)) = some (some (.int .u8 0), 1, 1) := by kernel_rfl

theorem clone_nil (w : World) : Calls Try.prog 9 #[.slice none 0 0] w fun r w' => r = .returned (.slice none 0 0) ∧ w' = w := by
  have heq := fun w a n c => Lib.run_eql_slice_nil (P := Try.prog) w 22 5 a n c 0 0 Try.underlying22
  go_enter Try.func9, Try.ntmps9
  go_wp2
  go_ret
  exact ⟨rfl, rfl⟩

theorem made (n : Nat) : madeCells #[Value.int .u8 0] n = (List.replicate n (Value.int .u8 0)).toArray := by
  apply Array.ext
  · simp [madeCells]
  · intro i h1 h2
    simp [madeCells, Nat.mod_one]

theorem heap_cell_alloc (w : World) (o : Obj) (a : Addr) (h : a.block < w.heap.size) : (w.alloc o).cell? a = w.cell? a :=
  World.cell?_of_block (heap_alloc_old _ _ h)

theorem copy_arm {w : World} {x : Addr} {len cap : Nat} {l : List Int} (hl : l.length = len) (HC : Hid (∀ j, j < len → w.cell? (x.add j) = some (.int .u8 (l.getD j 0)))) {zs cs : List Value}
    (HZ : Hid (zs = List.replicate len (Value.int .u8 0))) (HCS : Hid (cs = l.map (Value.int .u8)))
    {ops : Array Oper} {rest : List Oper} {o : Oper} {a : Act} {Q : Exit → Act → World → Prop} (hgd : o.guard = none) (d s : Operand)
    (ho : o.op = .call { callee := .builtin .copy, args := #[d, s], argTypes := #[22, 22] })
    (hd : a.eval d = .slice (some ⟨w.heap.size, 0, none⟩) len len) (hs : a.eval s = .slice (some x) len cap)
    (h : ∀ w', Hid (w'.heap[w.heap.size]? = some (.cells (cells l) 5 (0, 0))) → Hid (Below w.heap.size w w') → Hid (w.heap.size < w'.heap.size) → wpList Try.prog ops Q rest (a.put o.dst (goInt len)) w') :
    wpList Try.prog ops Q (o :: rest) a (w.alloc (.cells zs.toArray 5)) := by
  have hz := HZ.out
  have hcs := HCS.out
  subst hz
  have hcl : cs.length = len := by rw [hcs]; simp [hl]
  refine wpList_copy_splice hgd d s 22 22 ho 5 Try.underlying22 (by kernel_rfl) _ _ _ _ _ _ hd hs w.heap.size 0 (List.replicate len (Value.int .u8 0)) 5 (heap_alloc_new _ _) cs (by rw [hcl]; exact (Nat.min_self _).symm) ?_ ?_ ?_ w.heap.size (w.alloc (.cells (List.replicate len (Value.int .u8 0)).toArray 5)) (Below.refl _ _) (Nat.le_refl _) ?_
  · intro hpos
    refine ⟨rfl, x, rfl, ?_⟩
    intro j v hv
    have hj : j < len := by
      have := (List.getElem?_eq_some_iff.1 hv).1
      omega
    have := HC.out j hj
    have hx : ((x.add j).block) < w.heap.size := block_lt_of_cell this
    rw [heap_cell_alloc _ _ _ hx, this]
    rw [hcs] at hv
    have hj' : j < l.length := by omega
    simpa [List.getElem?_eq_getElem hj'] using hv
  · simp [hcl]
  · intro v hv
    rw [hcs] at hv
    exact ints_oneCell .u8 l v hv
  · intro w' hw' hb'
    rw [hcl]
    refine h w' ?_ ?_ ?_
    · have e : splice (List.replicate len (Value.int .u8 0)) 0 cs = l.map (Value.int .u8) := by
        rw [hcs]; simp [splice, hl]
      have := hw'.out
      rw [e] at this
      exact this
    · exact ((Below.refl _ _).alloc (Nat.le_refl _) _).trans hb'
    · have := hb'.size
      simp at this
      exact this

set_option maxHeartbeats 1000000 in
theorem clone_any (w : World) (x : Addr) (len cap : Nat) (l : List Int) (hl : l.length = len) (hc : ∀ j, j < len → w.cell? (x.add j) = some (.int .u8 (l.getD j 0))) (hn : len ≤ 1048576) :
    Calls Try.prog 9 #[.slice (some x) len cap] w fun r w' => r = .returned (.slice (some ⟨w.heap.size, 0, none⟩) len len) ∧ w'.heap[w.heap.size]? = some (.cells (cells l) 5 (0, 0)) ∧ Below w.heap.size w w' ∧ w.heap.size < w'.heap.size := by
  obtain ⟨i, hi, hz0, hz1, hz2⟩ := info_parts info5
  have hmk : ∀ w, (Instr.makeSlice 22 (.int .i64 len) (.int .i64 len)).run Try.prog w = .ok (.slice (some ⟨w.heap.size, 0, none⟩) len len) (w.alloc (.cells (List.replicate len (Value.int .u8 0)).toArray 5)) := by
    intro w
    have := run_make (P := Try.prog) w 22 5 i (.int .u8 0) Try.underlying22 hi hz0 .i64 .i64 len len (by omega) (by omega) (by rw [hz2]; omega) (by omega)
    rw [hz1] at this
    simpa [Value.cells, made] using this
  have HC := hide hc
  clear hc
  have heq := fun w a n c => Lib.run_eql_slice_nil (P := Try.prog) w 22 5 a n c 0 0 Try.underlying22
  go_enter Try.func9, Try.ntmps9
  obtain ⟨cs, hcs⟩ : ∃ cs, cs = l.map (Value.int .u8) := ⟨_, rfl⟩
  have HCS := hide hcs
  clear hcs
  obtain ⟨zs, hzs⟩ : ∃ zs, zs = List.replicate len (Value.int .u8 0) := ⟨_, rfl⟩
  rw [← hzs] at hmk
  have HZ := hide hzs
  clear hzs
  go_wp2_with (show wpList _ _ _ (⟨_, .call { callee := .builtin .copy, args := _, argTypes := _ }, _, _, _, _⟩ :: _) _ _; refine copy_arm hl HC HZ HCS rfl _ _ rfl rfl rfl ?_; intro w2 hg2 hb2 hs2)
  go_ret
  exact ⟨rfl, hg2.out, hb2.out, hs2.out⟩

/-- What is known of a slice of bytes that came in. -/
def Src (w : World) (a : Option Addr) (len cap : Nat) (l : List Int) : Prop :=
  l.length = len ∧ ((a = none ∧ len = 0 ∧ cap = 0) ∨ ∃ x, a = some x ∧ ∀ j, j < len → w.cell? (x.add j) = some (.int .u8 (l.getD j 0)))
/-- The clone, whatever the slice: nil stays nil; else it lies in a block of its own. -/
theorem clone_src (w : World) (a : Option Addr) (len cap : Nat) (l : List Int) (hs : Src w a len cap l) (hn : len ≤ 1048576) :
    Calls Try.prog 9 #[.slice a len cap] w fun r w' => ∃ b, r = .returned (.slice b len len) ∧ (0 < len → b = some ⟨w.heap.size, 0, none⟩) ∧ (0 < len → w'.heap[w.heap.size]? = some (.cells (cells l) 5 (0, 0))) ∧ Below w.heap.size w w' := by
  obtain ⟨hl, ⟨rfl, rfl, rfl⟩ | ⟨x, rfl, hc⟩⟩ := hs
  · refine (clone_nil w).mono ?_
    rintro r w' ⟨rfl, rfl⟩
    exact ⟨none, rfl, fun h => absurd h (by omega), fun h => absurd h (by omega), Below.refl _ _⟩
  · refine (clone_any w x len cap l hl hc hn).mono ?_
    rintro r w' ⟨rfl, h1, h2, h3⟩
    exact ⟨_, rfl, fun _ => rfl, fun _ => h1, h2⟩

theorem bytes3 (w : World) (a : Option Addr) (n c : Nat) (x y z : Int) (a' : Option Addr) (n' c' : Nat) (h1 : n ≤ maxLen) (h2 : n' ≤ maxLen) :
    Calls Try.prog 8 #[.slice a n c, .int .i64 x, .int .i64 y, .int .i64 z, .slice a' n' c'] w fun r w' => r = .returned (.bool (decide (n + n' ≤ 1048576))) ∧ w' = w := by
  unfold maxLen at h1 h2
  by_cases h : n + n' ≤ 1048576
  · rw [decide_eq_true h]
    go_enter Try.func8, Try.ntmps8
    go_wp2
    go_ret
    exact ⟨rfl, rfl⟩
  · rw [decide_eq_false h]
    go_enter Try.func8, Try.ntmps8
    go_wp2
    all_goals
      go_ret
      exact ⟨rfl, rfl⟩
theorem bytes4 (w : World) (a : Option Addr) (n c : Nat) (x y z u v : Int) (h1 : n ≤ maxLen) :
    Calls Try.prog 11 #[.slice a n c, .int .i64 x, .int .i64 y, .int .i64 z, .int .i64 u, .int .i64 v] w fun r w' => r = .returned (.bool (decide (n ≤ 1048576))) ∧ w' = w := by
  unfold maxLen at h1
  by_cases h : n ≤ 1048576
  · rw [decide_eq_true h]
    go_enter Try.func11, Try.ntmps11
    go_wp2
    go_ret
    exact ⟨rfl, rfl⟩
  · rw [decide_eq_false h]
    go_enter Try.func11, Try.ntmps11
    go_wp2
    all_goals
      go_ret
      exact ⟨rfl, rfl⟩
theorem bytes5 (w : World) (a : Option Addr) (n c : Nat) (x y z u v : Int) (h1 : n ≤ maxLen) :
    Calls Try.prog 14 #[.slice a n c, .int .i64 x, .int .i64 y, .int .i64 z, .int .i64 u, .int .i64 v] w fun r w' => r = .returned (.bool (decide (n ≤ 1048576))) ∧ w' = w := by
  unfold maxLen at h1
  by_cases h : n ≤ 1048576
  · rw [decide_eq_true h]
    go_enter Try.func14, Try.ntmps14
    go_wp2
    go_ret
    exact ⟨rfl, rfl⟩
  · rw [decide_eq_false h]
    go_enter Try.func14, Try.ntmps14
    go_wp2
    all_goals
      go_ret
      exact ⟨rfl, rfl⟩
end Go.Proofs.Qxb6602659a.Win
