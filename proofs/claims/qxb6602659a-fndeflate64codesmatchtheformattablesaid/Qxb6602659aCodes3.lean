import Derived.Test.Qxb6602659aCodes2
import Derived.Deep.WholeRow
import Derived.Deep.Cut
namespace Go.Proofs.Qxb6602659a.Codes
open Go.RowKit

def WL : Array Value := #[.int .i64 3, .int .i64 4, .int .i64 5, .int .i64 6, .int .i64 7, .int .i64 8, .int .i64 9, .int .i64 10, .int .i64 11, .int .i64 13, .int .i64 15, .int .i64 17, .int .i64 19, .int .i64 23, .int .i64 27, .int .i64 31, .int .i64 35, .int .i64 43, .int .i64 51, .int .i64 59, .int .i64 67, .int .i64 83, .int .i64 99, .int .i64 115, .int .i64 131, .int .i64 163, .int .i64 195, .int .i64 227, .int .i64 3]
def WE : Array Value := #[.int .u64 0, .int .u64 0, .int .u64 0, .int .u64 0, .int .u64 0, .int .u64 0, .int .u64 0, .int .u64 0, .int .u64 1, .int .u64 1, .int .u64 1, .int .u64 1, .int .u64 2, .int .u64 2, .int .u64 2, .int .u64 2, .int .u64 3, .int .u64 3, .int .u64 3, .int .u64 3, .int .u64 4, .int .u64 4, .int .u64 4, .int .u64 4, .int .u64 5, .int .u64 5, .int .u64 5, .int .u64 5, .int .u64 16]
def WD : Array Value := #[.int .i64 1, .int .i64 2, .int .i64 3, .int .i64 4, .int .i64 5, .int .i64 7, .int .i64 9, .int .i64 13, .int .i64 17, .int .i64 25, .int .i64 33, .int .i64 49, .int .i64 65, .int .i64 97, .int .i64 129, .int .i64 193, .int .i64 257, .int .i64 385, .int .i64 513, .int .i64 769, .int .i64 1025, .int .i64 1537, .int .i64 2049, .int .i64 3073, .int .i64 4097, .int .i64 6145, .int .i64 8193, .int .i64 12289, .int .i64 16385, .int .i64 24577, .int .i64 32769, .int .i64 49153]
def WX : Array Value := #[.int .u64 0, .int .u64 0, .int .u64 0, .int .u64 0, .int .u64 1, .int .u64 1, .int .u64 2, .int .u64 2, .int .u64 3, .int .u64 3, .int .u64 4, .int .u64 4, .int .u64 5, .int .u64 5, .int .u64 6, .int .u64 6, .int .u64 7, .int .u64 7, .int .u64 8, .int .u64 8, .int .u64 9, .int .u64 9, .int .u64 10, .int .u64 10, .int .u64 11, .int .u64 11, .int .u64 12, .int .u64 12, .int .u64 13, .int .u64 13, .int .u64 14, .int .u64 14]
theorem eqL (w : World) : (Op.equalIn 10000 32 (.agg LF) (.agg WL)).run Try.prog w = .ok true w := by kernel_rfl
theorem eqE (w : World) : (Op.equalIn 10000 34 (.agg EF) (.agg WE)).run Try.prog w = .ok true w := by kernel_rfl
theorem eqD (w : World) : (Op.equalIn 10000 35 (.agg DF) (.agg WD)).run Try.prog w = .ok true w := by kernel_rfl
theorem eqX (w : World) : (Op.equalIn 10000 36 (.agg XF) (.agg WX)).run Try.prog w = .ok true w := by kernel_rfl
theorem wl_ok : WL.all (·.oneCell') = true := by kernel_rfl
theorem we_ok : WE.all (·.oneCell') = true := by kernel_rfl
theorem wd_ok : WD.all (·.oneCell') = true := by kernel_rfl
theorem wx_ok : WX.all (·.oneCell') = true := by kernel_rfl
theorem wl_sz : 29 = WL.size := by kernel_rfl
theorem wl_i : (Try.prog.info? 32).map (·.size) = some WL.size := by kernel_rfl
theorem we_sz : 29 = WE.size := by kernel_rfl
theorem we_i : (Try.prog.info? 34).map (·.size) = some WE.size := by kernel_rfl
theorem wd_sz : 32 = WD.size := by kernel_rfl
theorem wd_i : (Try.prog.info? 35).map (·.size) = some WD.size := by kernel_rfl
theorem wx_sz : 32 = WX.size := by kernel_rfl
theorem wx_i : (Try.prog.info? 36).map (·.size) = some WX.size := by kernel_rfl

section
variable {P : Program} {ops : Array Oper} {rest : List Oper} {o : Oper} {a : Act} {w : World} {Q : Exit → Act → World → Prop}
theorem wpList_wanted (hw : Region.wanted o (yielded ops a.tmps) = true)
    (h : ∀ K : Act → World → Prop, (∀ a w, wpList P ops Q rest a w → K a w) → o.wp P a w K Q) : wpList P ops Q (o :: rest) a w :=
  wpList_step fun K hK => by simp only [hw, if_true]; exact h K hK
/-- A whole row read, guarded or not. -/
theorem wpList_load_row' (hw : Region.wanted o (yielded ops a.tmps) = true) (ty : TypeId) (x : Operand) (ho : o.op = .load ty x)
    (g : Nat) (hx : a.eval x = .pointer (some ⟨g, 0, none⟩)) (t : TypeId) (cs : Array Value) (fr : Nat × Nat) (d : TypeDesc) (hg : w.heap[g]? = some (.cells cs t fr))
    (hu : P.underlying ty = some d) (hd : (match d with | .struct _ | .array _ _ => true | _ => false) = true) (hi : (P.info? ty).map (·.size) = some cs.size)
    (h : wpList P ops Q rest (a.put o.dst (.agg cs)) w) : wpList P ops Q (o :: rest) a w :=
  wpList_wanted hw fun _ hK => wp_load_row ty x ho g hx t cs fr d hg hu hd hi (hK _ _ h)
/-- A literal array. -/
theorem wpList_build_as (hg : o.guard = none) (t : TypeId) (parts : Array (Nat × Operand)) (ho : o.op = .build t parts) (cells : Array Value)
    (hf : P.built t (parts.map fun (i, x) => (i, a.eval x)).toList = some cells)
    (h : wpList P ops Q rest (a.put o.dst (.agg cells)) w) : wpList P ops Q (o :: rest) a w :=
  wpList_build hg t parts ho (by rw [hf]; rfl) (by rw [hf]; exact h)
/-- A whole row laid into the block that was made last. -/
theorem wpList_store_new (hgd : o.guard = none) (ty : TypeId) (x y : Operand) (ho : o.op = .store ty x y)
    (g : Nat) (hgs : w.heap.size = g) (cells : Array Value) (hx : a.eval x = .pointer (some ⟨g, 0, none⟩)) (hy : a.eval y = .agg cells)
    (t : TypeId) (old : Array Value) (hi : (P.info? ty).map (·.size) = some cells.size)
    (hold : old.size = cells.size) (h1 : cells.all (·.oneCell') = true)
    (h : wpList P ops Q rest (a.put o.dst undef) (w.alloc (.cells cells t))) : wpList P ops Q (o :: rest) a (w.alloc (.cells old t)) := by
  subst hgs
  exact wpList_store_row hgd ty x y ho w.heap.size cells hx hy t old (heap_alloc_last w _) hi hold h1 (by rw [World.setRow_alloc_new]; exact h)
end

theorem size5 (w1 : World) (a b c d : Obj) (A B C D : Array Value) : ((((((((w1.alloc a).alloc b).alloc c).alloc d).setRow w1.heap.size A).setRow (w1.heap.size + 1) B).setRow (w1.heap.size + 1 + 1) C).setRow (w1.heap.size + 1 + 1 + 1) D).heap.size = w1.heap.size + 1 + 1 + 1 + 1 := by simp

theorem eight {N : Nat} {w1 x : World} {A B C D A' B' C' D' : Array Value} (h : Four N w1 x A B C D) (hs : x.heap.size = N + 1 + 1 + 1 + 1) :
    let W := (((x.alloc (.cells A' 32)).alloc (.cells B' 34)).alloc (.cells C' 35)).alloc (.cells D' 36)
    W.heap[N]? = some (.cells A 32 (0, 0)) ∧ W.heap[N + 1]? = some (.cells B 34 (0, 0)) ∧ W.heap[N + 1 + 1]? = some (.cells C 35 (0, 0)) ∧ W.heap[N + 1 + 1 + 1]? = some (.cells D 36 (0, 0)) ∧
    W.heap[N + 1 + 1 + 1 + 1]? = some (.cells A' 32 (0, 0)) ∧ W.heap[N + 1 + 1 + 1 + 1 + 1]? = some (.cells B' 34 (0, 0)) ∧ W.heap[N + 1 + 1 + 1 + 1 + 1 + 1]? = some (.cells C' 35 (0, 0)) ∧ W.heap[N + 1 + 1 + 1 + 1 + 1 + 1 + 1]? = some (.cells D' 36 (0, 0)) ∧ Below N w1 W := by
  intro W
  have F := Four.start x A' B' C' D'
  have hb := F.below
  refine ⟨?_, ?_, ?_, ?_, ?_, ?_, ?_, ?_, ?_⟩
  · rw [hb.block _ (by omega)]; exact h.a
  · rw [hb.block _ (by omega)]; exact h.b
  · rw [hb.block _ (by omega)]; exact h.c
  · rw [hb.block _ (by omega)]; exact h.d
  · have := F.a; rw [hs] at this; exact this
  · have := F.b; rw [hs] at this; exact this
  · have := F.c; rw [hs] at this; exact this
  · have := F.d; rw [hs] at this; exact this
  · exact h.below.trans (hb.mono (by omega))

set_option maxHeartbeats 1000000 in
theorem walk (w : World) :
    Calls Try.prog 7 #[] w fun e w' => e = .returned (.bool true) ∧ Below w.heap.size w w' := by
  go_enter Try.func7, Try.ntmps7
  go_wp2_with fail
  refine (zzcodes_any _).mono ?_
  rintro e w1 ⟨rfl, hb⟩
  have F1 := Four.start w1 #[Value.int .i64 0, .int .i64 0, .int .i64 0, .int .i64 0, .int .i64 0, .int .i64 0, .int .i64 0, .int .i64 0, .int .i64 0, .int .i64 0, .int .i64 0, .int .i64 0, .int .i64 0, .int .i64 0, .int .i64 0, .int .i64 0, .int .i64 0, .int .i64 0, .int .i64 0, .int .i64 0, .int .i64 0, .int .i64 0, .int .i64 0, .int .i64 0, .int .i64 0, .int .i64 0, .int .i64 0, .int .i64 0, .int .i64 0] #[Value.int .u64 0, .int .u64 0, .int .u64 0, .int .u64 0, .int .u64 0, .int .u64 0, .int .u64 0, .int .u64 0, .int .u64 0, .int .u64 0, .int .u64 0, .int .u64 0, .int .u64 0, .int .u64 0, .int .u64 0, .int .u64 0, .int .u64 0, .int .u64 0, .int .u64 0, .int .u64 0, .int .u64 0, .int .u64 0, .int .u64 0, .int .u64 0, .int .u64 0, .int .u64 0, .int .u64 0, .int .u64 0, .int .u64 0] #[Value.int .i64 0, .int .i64 0, .int .i64 0, .int .i64 0, .int .i64 0, .int .i64 0, .int .i64 0, .int .i64 0, .int .i64 0, .int .i64 0, .int .i64 0, .int .i64 0, .int .i64 0, .int .i64 0, .int .i64 0, .int .i64 0, .int .i64 0, .int .i64 0, .int .i64 0, .int .i64 0, .int .i64 0, .int .i64 0, .int .i64 0, .int .i64 0, .int .i64 0, .int .i64 0, .int .i64 0, .int .i64 0, .int .i64 0, .int .i64 0, .int .i64 0, .int .i64 0] #[Value.int .u64 0, .int .u64 0, .int .u64 0, .int .u64 0, .int .u64 0, .int .u64 0, .int .u64 0, .int .u64 0, .int .u64 0, .int .u64 0, .int .u64 0, .int .u64 0, .int .u64 0, .int .u64 0, .int .u64 0, .int .u64 0, .int .u64 0, .int .u64 0, .int .u64 0, .int .u64 0, .int .u64 0, .int .u64 0, .int .u64 0, .int .u64 0, .int .u64 0, .int .u64 0, .int .u64 0, .int .u64 0, .int .u64 0, .int .u64 0, .int .u64 0, .int .u64 0]
  have F2 := F1.rowa LF
  have F3 := F2.rowb EF
  have F4 := F3.rowc DF
  have F5 := F4.rowd XF
  have HB := hide hb
  clear hb
  have G1 := hide F1.a
  have G2 := hide F2.b
  have G3 := hide F3.c
  have G4 := hide F4.d
  have G5 := hide F5
  clear F1 F2 F3 F4 F5
  go_upto_region 2 with (first
    | (show wpList _ _ _ (⟨_, .store 32 (.tmp 1) (.tmp 11), _, _, _, _⟩ :: _) _ _; refine wpList_store_row rfl 32 _ _ rfl w1.heap.size LF rfl rfl 32 _ G1.out lf_i lf_sz lf_ok ?_)
    | (show wpList _ _ _ (⟨_, .store 34 (.tmp 2) (.tmp 12), _, _, _, _⟩ :: _) _ _; refine wpList_store_row rfl 34 _ _ rfl (w1.heap.size + 1) EF rfl rfl 34 _ G2.out ef_i ef_sz ef_ok ?_)
    | (show wpList _ _ _ (⟨_, .store 35 (.tmp 3) (.tmp 13), _, _, _, _⟩ :: _) _ _; refine wpList_store_row rfl 35 _ _ rfl (w1.heap.size + 1 + 1) DF rfl rfl 35 _ G3.out df_i df_sz df_ok ?_)
    | (show wpList _ _ _ (⟨_, .store 36 (.tmp 4) (.tmp 14), _, _, _, _⟩ :: _) _ _; refine wpList_store_row rfl 36 _ _ rfl (w1.heap.size + 1 + 1 + 1) XF rfl rfl 36 _ G4.out xf_i xf_sz xf_ok ?_))
  clear G1 G2 G3 G4
  have hs5 := size5 w1 (.cells #[Value.int .i64 0, .int .i64 0, .int .i64 0, .int .i64 0, .int .i64 0, .int .i64 0, .int .i64 0, .int .i64 0, .int .i64 0, .int .i64 0, .int .i64 0, .int .i64 0, .int .i64 0, .int .i64 0, .int .i64 0, .int .i64 0, .int .i64 0, .int .i64 0, .int .i64 0, .int .i64 0, .int .i64 0, .int .i64 0, .int .i64 0, .int .i64 0, .int .i64 0, .int .i64 0, .int .i64 0, .int .i64 0, .int .i64 0] 32) (.cells #[Value.int .u64 0, .int .u64 0, .int .u64 0, .int .u64 0, .int .u64 0, .int .u64 0, .int .u64 0, .int .u64 0, .int .u64 0, .int .u64 0, .int .u64 0, .int .u64 0, .int .u64 0, .int .u64 0, .int .u64 0, .int .u64 0, .int .u64 0, .int .u64 0, .int .u64 0, .int .u64 0, .int .u64 0, .int .u64 0, .int .u64 0, .int .u64 0, .int .u64 0, .int .u64 0, .int .u64 0, .int .u64 0, .int .u64 0] 34) (.cells #[Value.int .i64 0, .int .i64 0, .int .i64 0, .int .i64 0, .int .i64 0, .int .i64 0, .int .i64 0, .int .i64 0, .int .i64 0, .int .i64 0, .int .i64 0, .int .i64 0, .int .i64 0, .int .i64 0, .int .i64 0, .int .i64 0, .int .i64 0, .int .i64 0, .int .i64 0, .int .i64 0, .int .i64 0, .int .i64 0, .int .i64 0, .int .i64 0, .int .i64 0, .int .i64 0, .int .i64 0, .int .i64 0, .int .i64 0, .int .i64 0, .int .i64 0, .int .i64 0] 35) (.cells #[Value.int .u64 0, .int .u64 0, .int .u64 0, .int .u64 0, .int .u64 0, .int .u64 0, .int .u64 0, .int .u64 0, .int .u64 0, .int .u64 0, .int .u64 0, .int .u64 0, .int .u64 0, .int .u64 0, .int .u64 0, .int .u64 0, .int .u64 0, .int .u64 0, .int .u64 0, .int .u64 0, .int .u64 0, .int .u64 0, .int .u64 0, .int .u64 0, .int .u64 0, .int .u64 0, .int .u64 0, .int .u64 0, .int .u64 0, .int .u64 0, .int .u64 0, .int .u64 0] 36) LF EF DF XF
  generalize World.setRow _ (w1.heap.size + 1 + 1 + 1) XF = x5 at *
  go_upto_region 3 with (first
    | (show wpList _ _ _ (⟨_, .build 32 _, _, _, _, _⟩ :: _) _ _; refine wpList_build_as rfl 32 _ rfl WL (by kernel_rfl) ?_)
    | (show wpList _ _ _ (⟨_, .store 32 (.tmp 5) (.tmp 15), _, _, _, _⟩ :: _) _ _; refine wpList_store_new rfl 32 _ _ rfl (w1.heap.size + 1 + 1 + 1 + 1) (by simp [hs5]) WL rfl rfl 32 _ wl_i wl_sz wl_ok ?_))
  go_upto_region 4 with (first
    | (show wpList _ _ _ (⟨_, .build 34 _, _, _, _, _⟩ :: _) _ _; refine wpList_build_as rfl 34 _ rfl WE (by kernel_rfl) ?_)
    | (show wpList _ _ _ (⟨_, .store 34 (.tmp 6) (.tmp 16), _, _, _, _⟩ :: _) _ _; refine wpList_store_new rfl 34 _ _ rfl (w1.heap.size + 1 + 1 + 1 + 1 + 1) (by simp [hs5]) WE rfl rfl 34 _ we_i we_sz we_ok ?_))
  go_upto_region 5 with (first
    | (show wpList _ _ _ (⟨_, .build 35 _, _, _, _, _⟩ :: _) _ _; refine wpList_build_as rfl 35 _ rfl WD (by kernel_rfl) ?_)
    | (show wpList _ _ _ (⟨_, .store 35 (.tmp 7) (.tmp 17), _, _, _, _⟩ :: _) _ _; refine wpList_store_new rfl 35 _ _ rfl (w1.heap.size + 1 + 1 + 1 + 1 + 1 + 1) (by simp [hs5]) WD rfl rfl 35 _ wd_i wd_sz wd_ok ?_))
  go_upto_region 6 with (first
    | (show wpList _ _ _ (⟨_, .build 36 _, _, _, _, _⟩ :: _) _ _; refine wpList_build_as rfl 36 _ rfl WX (by kernel_rfl) ?_)
    | (show wpList _ _ _ (⟨_, .store 36 (.tmp 8) (.tmp 18), _, _, _, _⟩ :: _) _ _; refine wpList_store_new rfl 36 _ _ rfl (w1.heap.size + 1 + 1 + 1 + 1 + 1 + 1 + 1) (by simp [hs5]) WX rfl rfl 36 _ wx_i wx_sz wx_ok ?_))
  obtain ⟨f1, f2, f3, f4, f5, f6, f7, f8, fb⟩ := eight G5.out hs5
  generalize World.alloc _ (.cells WX 36) = x9 at *
  clear G5 hs5
  have e1 := eqL; have e2 := eqE; have e3 := eqD; have e4 := eqX
  have g1 := hide f1; have g2 := hide f2; have g3 := hide f3; have g4 := hide f4; have g5 := hide f5; have g6 := hide f6; have g7 := hide f7; have g8 := hide f8
  have gb := hide fb
  clear f1 f2 f3 f4 f5 f6 f7 f8 fb
  go_wp2_with (first
    | (show wpList _ _ _ (⟨_, .load 32 (.tmp 1), _, _, _, _⟩ :: _) _ _; refine wpList_load_row' rfl 32 _ rfl (w1.heap.size) rfl 32 LF _ _ g1.out Try.underlying32 rfl lf_i ?_)
    | (show wpList _ _ _ (⟨_, .load 34 (.tmp 2), _, _, _, _⟩ :: _) _ _; refine wpList_load_row' rfl 34 _ rfl (w1.heap.size + 1) rfl 34 EF _ _ g2.out Try.underlying34 rfl ef_i ?_)
    | (show wpList _ _ _ (⟨_, .load 35 (.tmp 3), _, _, _, _⟩ :: _) _ _; refine wpList_load_row' rfl 35 _ rfl (w1.heap.size + 1 + 1) rfl 35 DF _ _ g3.out Try.underlying35 rfl df_i ?_)
    | (show wpList _ _ _ (⟨_, .load 36 (.tmp 4), _, _, _, _⟩ :: _) _ _; refine wpList_load_row' rfl 36 _ rfl (w1.heap.size + 1 + 1 + 1) rfl 36 XF _ _ g4.out Try.underlying36 rfl xf_i ?_)
    | (show wpList _ _ _ (⟨_, .load 32 (.tmp 5), _, _, _, _⟩ :: _) _ _; refine wpList_load_row' rfl 32 _ rfl (w1.heap.size + 1 + 1 + 1 + 1) rfl 32 WL _ _ g5.out Try.underlying32 rfl wl_i ?_)
    | (show wpList _ _ _ (⟨_, .load 34 (.tmp 6), _, _, _, _⟩ :: _) _ _; refine wpList_load_row' rfl 34 _ rfl (w1.heap.size + 1 + 1 + 1 + 1 + 1) rfl 34 WE _ _ g6.out Try.underlying34 rfl we_i ?_)
    | (show wpList _ _ _ (⟨_, .load 35 (.tmp 7), _, _, _, _⟩ :: _) _ _; refine wpList_load_row' rfl 35 _ rfl (w1.heap.size + 1 + 1 + 1 + 1 + 1 + 1) rfl 35 WD _ _ g7.out Try.underlying35 rfl wd_i ?_)
    | (show wpList _ _ _ (⟨_, .load 36 (.tmp 8), _, _, _, _⟩ :: _) _ _; refine wpList_load_row' rfl 36 _ rfl (w1.heap.size + 1 + 1 + 1 + 1 + 1 + 1 + 1) rfl 36 WX _ _ g8.out Try.underlying36 rfl wx_i ?_))
  go_ret
  exact ⟨rfl, HB.out.trans (gb.out.mono HB.out.size)⟩
end Go.Proofs.Qxb6602659a.Codes
