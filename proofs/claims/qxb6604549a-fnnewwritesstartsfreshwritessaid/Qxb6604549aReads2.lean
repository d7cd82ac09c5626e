import Derived.Test.Qxb6604549aWrites2
import Derived.StillTailTactics
namespace Go.Proofs.Qxb6604549a.Parts
open Go.RowKit

theorem store43 (w : World) (b o : Nat) (cs : List Value) (ht : w.there b o 42) (hl : cs.length = 42) (h1 : ∀ v ∈ cs, v.oneCell' = true) :
    (Instr.storeAt 43 (.pointer (some ⟨b, o, none⟩)) (.agg cs.toArray)).run Try.prog w = .ok () (w.setCells b o cs) :=
  run_storeAt_mid w b o 43 cs.toArray (by simpa [hl] using ht) (by rw [List.size_toArray, hl]; kernel_rfl) (all_oneCell_toArray h1)

theorem made_op (w : World) (n : Nat) (hn : n ≤ 4096) : ∃ cur : Array Value, cur.size = n * 42 ∧ (Instr.makeSlice 28 (.int .i64 n) (.int .i64 n)).run Try.prog w = .ok (.slice (some ⟨w.heap.size, 0, none⟩) n n) (w.alloc (.cells cur 43)) := by
  obtain ⟨i, hi, hz0, hz1, hz2⟩ := info_parts info43
  have := run_make (P := Try.prog) w 28 43 i (.agg zop) Try.underlying28 hi hz0 .i64 .i64 n n (by omega) (by omega) (by rw [hz2]; omega) (by omega)
  rw [hz1] at this
  exact ⟨_, size_madeCells _ _, by simpa using this⟩
theorem made_mark (w : World) (n : Nat) (hn : n ≤ 131072) : ∃ cur : Array Value, (∀ j, j < n → cur[j]? = some (.bool false)) ∧ (Instr.makeSlice 36 (.int .i64 n) (.int .i64 n)).run Try.prog w = .ok (.slice (some ⟨w.heap.size, 0, none⟩) n n) (w.alloc (.cells cur 4)) := by
  obtain ⟨i, hi, hz0, hz1, hz2⟩ := info_parts info4
  have := run_make (P := Try.prog) w 36 4 i (.bool false) Try.underlying36 hi hz0 .i64 .i64 n n (by omega) (by omega) (by rw [hz2]; omega) (by omega)
  rw [hz1] at this
  exact ⟨madeCells #[.bool false] n, fun j hj => by rw [made_at _ _ _ hj (by simp)]; simp [Nat.mod_one], by simpa [Value.cells] using this⟩
theorem made_pair (w : World) (n : Nat) (hn : n ≤ 65536) : ∃ cur : Array Value, (∀ j, j < n * 5 → cur[j]? = zp[j % 5]?) ∧ (Instr.makeSlice 37 (.int .i64 n) (.int .i64 n)).run Try.prog w = .ok (.slice (some ⟨w.heap.size, 0, none⟩) n n) (w.alloc (.cells cur 41)) := by
  obtain ⟨i, hi, hz0, hz1, hz2⟩ := info_parts info41
  have := run_make (P := Try.prog) w 37 41 i (.agg zp.toArray) Try.underlying37 hi hz0 .i64 .i64 n n (by omega) (by omega) (by rw [hz2]; omega) (by omega)
  rw [hz1] at this
  exact ⟨madeCells zp.toArray (n * 5), fun j hj => by rw [made_at _ _ _ hj (by simp [zp])]; simp [zp], by simpa [Value.cells] using this⟩

theorem sl_heard (gm nodes k q : Nat) (hq : q = nodes * k) : Value.slice (if (2 * (q : Int) + (nodes : Int)).toNat = (2 * (q : Int)).toNat then some ⟨gm, 0, none⟩ else some ⟨gm, (2 * (q : Int)).toNat, none⟩) ((2 * (q : Int) + (nodes : Int)).toNat - (2 * (q : Int)).toNat) ((2 * (q : Int) + (nodes : Int)).toNat - (2 * (q : Int)).toNat) = heardV gm nodes k := by
  have e1 : (2 * (q : Int) + (nodes : Int)).toNat = 2 * q + nodes := by omega
  have e2 : (2 * (q : Int)).toNat = 2 * q := by omega
  rw [e1, e2, show 2 * q + nodes - 2 * q = nodes by omega]
  unfold heardV
  by_cases h : nodes = 0
  · rw [if_pos (by omega), if_pos h]
  · rw [if_neg (by omega), if_neg h, hq, Nat.mul_assoc]
theorem sl_held (gm nodes k q : Nat) (hq : q = nodes * k) : Value.slice (if (2 * (q : Int) + (nodes : Int) + (nodes : Int)).toNat = (2 * (q : Int) + (nodes : Int)).toNat then some ⟨gm, 0, none⟩ else some ⟨gm, (2 * (q : Int) + (nodes : Int)).toNat, none⟩) ((2 * (q : Int) + (nodes : Int) + (nodes : Int)).toNat - (2 * (q : Int) + (nodes : Int)).toNat) ((2 * (q : Int) + (nodes : Int) + (nodes : Int)).toNat - (2 * (q : Int) + (nodes : Int)).toNat) = heldV gm nodes k := by
  have e1 : (2 * (q : Int) + (nodes : Int)).toNat = 2 * q + nodes := by omega
  have e2 : (2 * (q : Int) + (nodes : Int) + (nodes : Int)).toNat = 2 * q + nodes + nodes := by omega
  rw [e1, e2, show 2 * q + nodes + nodes - (2 * q + nodes) = nodes by omega]
  unfold heldV
  by_cases h : nodes = 0
  · rw [if_pos (by omega), if_pos h]
  · rw [if_neg (by omega), if_neg h, hq, Nat.mul_assoc]
theorem sl_ans (ga nodes k q : Nat) (hq : q = nodes * k) : Value.slice (if ((q : Int) + (nodes : Int)).toNat = q then some ⟨ga, 0, none⟩ else some ⟨ga, q * 5, none⟩) (((q : Int) + (nodes : Int)).toNat - q) (((q : Int) + (nodes : Int)).toNat - q) = ansV ga nodes k := by
  have e1 : ((q : Int) + (nodes : Int)).toNat = q + nodes := by omega
  rw [e1, show q + nodes - q = nodes by omega]
  unfold ansV
  by_cases h : nodes = 0
  · rw [if_pos (by omega), if_pos h]
  · rw [if_neg (by omega), if_neg h, hq]
theorem reads_start (w : World) (idl : List Int) (rank : Int) (nodes count : Nat) (c1 c2 c3 : Array Value) (h1 : c1.size = count * 42) (h2 : ∀ j, j < 2 * nodes * count → c2[j]? = some (.bool false)) (h3 : ∀ j, j < nodes * count * 5 → c3[j]? = zp[j % 5]?) :
    NR w ((((w.alloc (.cells (cells idl) 30)).alloc (.cells c1 43)).alloc (.cells c2 4)).alloc (.cells c3 41)) (w.heap.size + 1) (w.heap.size + 1 + 1) (w.heap.size + 1 + 1 + 1) idl rank nodes count 0 ∧
      ((((w.alloc (.cells (cells idl) 30)).alloc (.cells c1 43)).alloc (.cells c2 4)).alloc (.cells c3 41)).heap[w.heap.size]? = some (.cells (cells idl) 30 (0, 0)) := by
  have g0 : ((((w.alloc (.cells (cells idl) 30)).alloc (.cells c1 43)).alloc (.cells c2 4)).alloc (.cells c3 41)).heap[w.heap.size]? = some (.cells (cells idl) 30 (0, 0)) := by
    rw [heap_alloc_old _ _ (by simp <;> omega), heap_alloc_old _ _ (by simp <;> omega), heap_alloc_old _ _ (by simp)]; exact heap_alloc_new _ _
  have g1 : ((((w.alloc (.cells (cells idl) 30)).alloc (.cells c1 43)).alloc (.cells c2 4)).alloc (.cells c3 41)).heap[w.heap.size + 1]? = some (.cells c1 43 (0, 0)) := by
    rw [heap_alloc_old _ _ (by simp <;> omega), heap_alloc_old _ _ (by simp)]
    have := heap_alloc_new (w.alloc (.cells (cells idl) 30)) (.cells c1 43); simpa using this
  have g2 : ((((w.alloc (.cells (cells idl) 30)).alloc (.cells c1 43)).alloc (.cells c2 4)).alloc (.cells c3 41)).heap[w.heap.size + 1 + 1]? = some (.cells c2 4 (0, 0)) := by
    rw [heap_alloc_old _ _ (by simp)]
    have := heap_alloc_new ((w.alloc (.cells (cells idl) 30)).alloc (.cells c1 43)) (.cells c2 4); simpa using this
  have g3 : ((((w.alloc (.cells (cells idl) 30)).alloc (.cells c1 43)).alloc (.cells c2 4)).alloc (.cells c3 41)).heap[w.heap.size + 1 + 1 + 1]? = some (.cells c3 41 (0, 0)) := by
    have := heap_alloc_new (((w.alloc (.cells (cells idl) 30)).alloc (.cells c1 43)).alloc (.cells c2 4)) (.cells c3 41); simpa using this
  exact ⟨⟨⟨c1, h1, g1⟩, fun i hi => absurd hi (by omega), ⟨c2, g2, h2⟩, ⟨c3, g3, h3⟩, ((((Below.refl _ _).alloc (Nat.le_refl _) _).alloc (by simp) _).alloc (by simp <;> omega) _).alloc (by simp <;> omega) _, by omega, by omega, by omega⟩, g0⟩

theorem keepS {X : World} {h g o n : Nat} {ids : List Value} (hX : X.rangeAt h 0 ids ∧ X.there g o n) (i : Nat) (v : Value) (hne : h ≠ g) : (X.setCell ⟨g, i, none⟩ v).rangeAt h 0 ids ∧ (X.setCell ⟨g, i, none⟩ v).there g o n :=
  ⟨World.rangeAt_setCells_apart hX.1 g i [v] (.inl hne), World.there_setCells hX.2 g i [v]⟩
theorem keepD {X : World} {h g o n : Nat} {ids : List Value} (hX : X.rangeAt h 0 ids ∧ X.there g o n) : X.drew.rangeAt h 0 ids ∧ X.drew.there g o n := hX

set_option maxRecDepth 100000 in
set_option maxHeartbeats 4000000 in
theorem reads20 (w : World) (idl : List Int) (hid : idl.length = 16) (nodes count : Nat) (rank : Int) (hn : nodes ≤ 65536) (hc : count ≤ 4096) (hnc : nodes * count ≤ 65536) :
    Calls Try.prog 20 #[.agg (cells idl), .int .i64 nodes, .int .u32 rank, .int .i64 count] w fun r w' => r = .returned (.slice (some ⟨w.heap.size + 1, 0, none⟩) count count) ∧ NR w w' (w.heap.size + 1) (w.heap.size + 1 + 1) (w.heap.size + 1 + 1 + 1) idl rank nodes count count := by
  match idl, hid with
  | [x0, x1, x2, x3, x4, x5, x6, x7, x8, x9, x10, x11, x12, x13, x14, x15], hid =>
  obtain ⟨p, hp⟩ : ∃ p, p = nodes * count := ⟨_, rfl⟩
  obtain ⟨c1, hc1, m1⟩ := made_op (w.alloc (.cells (cells [x0, x1, x2, x3, x4, x5, x6, x7, x8, x9, x10, x11, x12, x13, x14, x15]) 30)) count hc
  obtain ⟨c2, hc2, m2⟩ := made_mark ((w.alloc (.cells (cells [x0, x1, x2, x3, x4, x5, x6, x7, x8, x9, x10, x11, x12, x13, x14, x15]) 30)).alloc (.cells c1 43)) (2 * p) (by omega)
  obtain ⟨c3, hc3, m3⟩ := made_pair (((w.alloc (.cells (cells [x0, x1, x2, x3, x4, x5, x6, x7, x8, x9, x10, x11, x12, x13, x14, x15]) 30)).alloc (.cells c1 43)).alloc (.cells c2 4)) p (by omega)
  have e1 : 2 * (nodes : Int) * (count : Int) = ((2 * p : Nat) : Int) := by rw [hp]; push_cast; rw [Int.mul_assoc]
  have e2 : (nodes : Int) * (count : Int) = (p : Int) := by rw [hp]; push_cast; rfl
  simp only [cells, List.map_cons, List.map_nil] at m1 m2 m3 ⊢
  simp at m1 m2 m3
  have hp2 : p ≤ 65536 := by omega
  have HP := hide hp
  clear hp
  go_enter Try.func20, Try.ntmps20
  have H0 := hide (reads_start w [x0, x1, x2, x3, x4, x5, x6, x7, x8, x9, x10, x11, x12, x13, x14, x15] rank nodes count c1 c2 c3 hc1 (by rw [HP.out] at hc2; rw [Nat.mul_assoc]; exact hc2) (by rw [HP.out] at hc3; exact hc3))
  have HK : Hid (w.heap.size + 1 < w.heap.size + 1 + 1) := by show _ < _; omega
  go_wp2
  clear hc1 hc2 hc3 m1 m2 m3
  go_loopw [28] (fun i wr => ∃ k : Nat, k ≤ count ∧ i = .int .i64 k ∧ Hid (NR w wr (w.heap.size + 1) (w.heap.size + 1 + 1) (w.heap.size + 1 + 1 + 1) [x0, x1, x2, x3, x4, x5, x6, x7, x8, x9, x10, x11, x12, x13, x14, x15] rank nodes count k) ∧ Hid (wr.heap[w.heap.size]? = some (.cells [Value.int .u8 x0, .int .u8 x1, .int .u8 x2, .int .u8 x3, .int .u8 x4, .int .u8 x5, .int .u8 x6, .int .u8 x7, .int .u8 x8, .int .u8 x9, .int .u8 x10, .int .u8 x11, .int .u8 x12, .int .u8 x13, .int .u8 x14, .int .u8 x15].toArray 30 (0, 0)))) (fun i _ => count - (intOf i).toNat)
  case atStart => exact ⟨0, Nat.zero_le _, rfl, H0.out.1, H0.out.2⟩
  case round =>
    clear H0
    obtain ⟨k, hk, rfl, HN, HR⟩ := hrel
    by_cases hlt : k < count
    · obtain ⟨q, hq⟩ : ∃ q, q = nodes * k := ⟨_, rfl⟩
      have hqp : q + nodes ≤ p := by
        have h1 := HP.out
        have h2 : nodes * (k + 1) ≤ nodes * count := Nat.mul_le_mul_left _ (by omega)
        rw [Nat.mul_add] at h2
        omega
      have e3 : 2 * (nodes : Int) * (k : Int) = 2 * (q : Int) := by rw [hq]; push_cast; rw [Int.mul_assoc]
      have e4 : IntKind.i64.wrap ((nodes : Int) * (k : Int)) = (q : Int) := by rw [show (nodes : Int) * (k : Int) = (q : Int) by rw [hq]; push_cast; rfl, IntKind.wrap_i64]; omega
      have e5 : IntKind.i64.wrap ((k : Int) + 1) = (k : Int) + 1 := by rw [IntKind.wrap_i64]; omega
      have e6 : IntKind.i64.wrap ((nodes : Int) * ((k : Int) + 1)) = (q : Int) + (nodes : Int) := by rw [show (nodes : Int) * ((k : Int) + 1) = (q : Int) + (nodes : Int) by rw [hq]; push_cast; rw [Int.mul_add, Int.mul_one], IntKind.wrap_i64]; omega
      have e7 : IntKind.i64.wrap (2 * (q : Int) + (nodes : Int) + (nodes : Int)) = 2 * (q : Int) + (nodes : Int) + (nodes : Int) := by rw [IntKind.wrap_i64]; omega
      have HQ := hide hq
      clear hq
      have j0 : (0 : Int) ≤ 2 * (q : Int) := by omega
      have j1 : 2 * (q : Int) ≤ 2 * (q : Int) + (nodes : Int) := by omega
      have j2 : 2 * (q : Int) + (nodes : Int) ≤ 2 * (p : Int) := by omega
      have j3 : (0 : Int) ≤ 2 * (q : Int) + (nodes : Int) := by omega
      have j4 : 2 * (q : Int) + (nodes : Int) ≤ 2 * (q : Int) + (nodes : Int) + (nodes : Int) := by omega
      have j5 : 2 * (q : Int) + (nodes : Int) + (nodes : Int) ≤ 2 * (p : Int) := by omega
      have j6 : (0 : Int) ≤ (q : Int) := by omega
      have j7 : (q : Int) ≤ (q : Int) + (nodes : Int) := by omega
      have j8 : (q : Int) + (nodes : Int) ≤ (p : Int) := by omega
      have i0 : (0 : Int) ≤ (k : Int) := by omega
      have i1 : (k : Int) < (count : Int) := by omega
      have a0 : wr.cell? ⟨w.heap.size, 0, none⟩ = some (.int .u8 x0) := by rw [cell_of_row _ _ _ _ _ _ HR.out]; rfl
      have a1 : wr.cell? ⟨w.heap.size, 1, none⟩ = some (.int .u8 x1) := by rw [cell_of_row _ _ _ _ _ _ HR.out]; rfl
      have a2 : wr.cell? ⟨w.heap.size, 2, none⟩ = some (.int .u8 x2) := by rw [cell_of_row _ _ _ _ _ _ HR.out]; rfl
      have a3 : wr.cell? ⟨w.heap.size, 3, none⟩ = some (.int .u8 x3) := by rw [cell_of_row _ _ _ _ _ _ HR.out]; rfl
      have a4 : wr.cell? ⟨w.heap.size, 4, none⟩ = some (.int .u8 x4) := by rw [cell_of_row _ _ _ _ _ _ HR.out]; rfl
      have a5 : wr.cell? ⟨w.heap.size, 5, none⟩ = some (.int .u8 x5) := by rw [cell_of_row _ _ _ _ _ _ HR.out]; rfl
      have a6 : wr.cell? ⟨w.heap.size, 6, none⟩ = some (.int .u8 x6) := by rw [cell_of_row _ _ _ _ _ _ HR.out]; rfl
      have a7 : wr.cell? ⟨w.heap.size, 7, none⟩ = some (.int .u8 x7) := by rw [cell_of_row _ _ _ _ _ _ HR.out]; rfl
      have a8 : wr.cell? ⟨w.heap.size, 8, none⟩ = some (.int .u8 x8) := by rw [cell_of_row _ _ _ _ _ _ HR.out]; rfl
      have a9 : wr.cell? ⟨w.heap.size, 9, none⟩ = some (.int .u8 x9) := by rw [cell_of_row _ _ _ _ _ _ HR.out]; rfl
      have a10 : wr.cell? ⟨w.heap.size, 10, none⟩ = some (.int .u8 x10) := by rw [cell_of_row _ _ _ _ _ _ HR.out]; rfl
      have a11 : wr.cell? ⟨w.heap.size, 11, none⟩ = some (.int .u8 x11) := by rw [cell_of_row _ _ _ _ _ _ HR.out]; rfl
      have a12 : wr.cell? ⟨w.heap.size, 12, none⟩ = some (.int .u8 x12) := by rw [cell_of_row _ _ _ _ _ _ HR.out]; rfl
      have a13 : wr.cell? ⟨w.heap.size, 13, none⟩ = some (.int .u8 x13) := by rw [cell_of_row _ _ _ _ _ _ HR.out]; rfl
      have a14 : wr.cell? ⟨w.heap.size, 14, none⟩ = some (.int .u8 x14) := by rw [cell_of_row _ _ _ _ _ _ HR.out]; rfl
      have a15 : wr.cell? ⟨w.heap.size, 15, none⟩ = some (.int .u8 x15) := by rw [cell_of_row _ _ _ _ _ _ HR.out]; rfl
      have HT : Hid (wr.drew.there (w.heap.size + 1) (k * 42) 42) := by
        obtain ⟨cur, r1, r2⟩ := HN.out.row
        exact cur_there r1 (w := wr.drew) r2 _ _ (by omega)
      have hfo : Try.prog.follows .mixedOrders = true := by kernel_rfl
      have HFO := hide hfo
      clear hfo
      have hfin : Hid (NR w (wr.drew.setCells (w.heap.size + 1) (k * 42) (([x0, x1, x2, x3, x4, x5, x6, x7, x8, x9, x10, x11, x12, x13, x14, x15] : List Int).map (Value.int .u8) ++ opTail rank false (.slice none 0 0) (.slice (if (2 * (q : Int) + (nodes : Int)).toNat = (2 * (q : Int)).toNat then some ⟨w.heap.size + 1 + 1, 0, none⟩ else some ⟨w.heap.size + 1 + 1, (2 * (q : Int)).toNat, none⟩) ((2 * (q : Int) + (nodes : Int)).toNat - (2 * (q : Int)).toNat) ((2 * (q : Int) + (nodes : Int)).toNat - (2 * (q : Int)).toNat)) (.slice (if ((q : Int) + (nodes : Int)).toNat = q then some ⟨w.heap.size + 1 + 1 + 1, 0, none⟩ else some ⟨w.heap.size + 1 + 1 + 1, q * 5, none⟩) (((q : Int) + (nodes : Int)).toNat - q) (((q : Int) + (nodes : Int)).toNat - q)) (.slice (if (2 * (q : Int) + (nodes : Int) + (nodes : Int)).toNat = (2 * (q : Int) + (nodes : Int)).toNat then some ⟨w.heap.size + 1 + 1, 0, none⟩ else some ⟨w.heap.size + 1 + 1, (2 * (q : Int) + (nodes : Int)).toNat, none⟩) ((2 * (q : Int) + (nodes : Int) + (nodes : Int)).toNat - (2 * (q : Int) + (nodes : Int)).toNat) ((2 * (q : Int) + (nodes : Int) + (nodes : Int)).toNat - (2 * (q : Int) + (nodes : Int)).toNat)))) (w.heap.size + 1) (w.heap.size + 1 + 1) (w.heap.size + 1 + 1 + 1) [x0, x1, x2, x3, x4, x5, x6, x7, x8, x9, x10, x11, x12, x13, x14, x15] rank nodes count (k + 1)) := by
        have h1 := HN.out.step hid hlt
        rw [← sl_heard _ nodes k q HQ.out, ← sl_ans _ nodes k q HQ.out, ← sl_held _ nodes k q HQ.out] at h1
        exact h1
      have hR2 : Hid (∀ l, (wr.drew.setCells (w.heap.size + 1) (k * 42) l).heap[w.heap.size]? = some (.cells [Value.int .u8 x0, .int .u8 x1, .int .u8 x2, .int .u8 x3, .int .u8 x4, .int .u8 x5, .int .u8 x6, .int .u8 x7, .int .u8 x8, .int .u8 x9, .int .u8 x10, .int .u8 x11, .int .u8 x12, .int .u8 x13, .int .u8 x14, .int .u8 x15].toArray 30 (0, 0))) := fun l => by
        rw [heap_setCells_other (by omega)]; exact HR.out
      clear HN HR HP HQ
      go_wp2
      go_still_tail 33, HFO.out
      refine wpList_store_mid rfl 43 _ _ rfl (w.heap.size + 1) (k * 42) _ rfl rfl (by exact HT.out) (by kernel_rfl) (by kernel_rfl) ?_
      clear a0 a1 a2 a3 a4 a5 a6 a7 a8 a9 a10 a11 a12 a13 a14 a15
      go_wp2
      go_roundw
      case rel => exact ⟨k + 1, by omega, by go_num, hfin, hR2.out _⟩
      case measure => simp [intOf]; omega
    · obtain rfl : k = count := by omega
      clear HR HP
      go_wp2
      go_ret
      exact ⟨rfl, HN.out⟩

theorem reads : Reads20 := fun w idl hid nodes count rank hn hc hnc => reads20 w idl hid nodes count rank hn hc hnc
end Go.Proofs.Qxb6604549a.Parts
