import Derived.Test.Qxb6604549aWrites
namespace Go.Proofs.Qxb6604549a.Parts
open Go.RowKit

/-- What 'NewReads' does. -/
def Reads20 : Prop := ∀ (w : World) (idl : List Int), idl.length = 16 → ∀ (nodes count : Nat) (rank : Int), nodes ≤ 65536 → count ≤ 4096 → nodes * count ≤ 65536 →
  Calls Try.prog 20 #[.agg (cells idl), .int .i64 nodes, .int .u32 rank, .int .i64 count] w fun r w' => r = .returned (.slice (some ⟨w.heap.size + 1, 0, none⟩) count count) ∧ NR w w' (w.heap.size + 1) (w.heap.size + 1 + 1) (w.heap.size + 1 + 1 + 1) idl rank nodes count count
/-- What 'NewWrites' does. -/
def WritesOut (w : World) (idl : List Int) (rank : Int) (nodes n : Nat) (V : Nat → Value) (r : Ending) (w' : World) : Prop :=
  r = .returned (.slice (some ⟨w.heap.size + 1 + 1, 0, none⟩) n n) ∧ NW w w' (w.heap.size + 1 + 1) (w.heap.size + 1 + 1 + 1) (w.heap.size + 1 + 1 + 1 + 1) idl rank nodes n n V
theorem NR.before {w w0 wr : World} {g gm ga : Nat} {idl : List Int} {rank : Int} {nodes count k : Nat} (h : NR w0 wr g gm ga idl rank nodes count k) (hb : Below w.heap.size w w0) : NR w wr g gm ga idl rank nodes count k :=
  ⟨h.row, h.ops, h.marks, h.ans, hb.trans (h.below.mono hb.size), Nat.le_trans hb.size h.own, h.ne1, h.ne2⟩

set_option maxRecDepth 100000 in
set_option maxHeartbeats 2000000 in
theorem writes9 (hR : Reads20) (w : World) (idl : List Int) (hid : idl.length = 16) (nodes n : Nat) (rank : Int) (hn : nodes ≤ 65536) (hc : n ≤ 4096) (hnc : nodes * n ≤ 65536) (a : Option Addr) (cap : Nat) (V : Nat → Value)
    (ha : ∀ j, j < n → ∃ b o, a = some ⟨b, o, none⟩ ∧ w.cell? ⟨b, o + j, none⟩ = some (V j)) (hV : ∀ j, j < n → ∃ x m c, V j = .slice x m c) :
    Calls Try.prog 9 #[.agg (cells idl), .int .i64 nodes, .int .u32 rank, .slice a n cap] w (WritesOut w idl rank nodes n V) := by
  have hsz : (cells idl).size = 16 := by simp [cells, hid]
  have HI : Hid ((Try.prog.info? 30).map (·.size) = some (cells idl).size) := by show _ = _; rw [hsz]; kernel_rfl
  have HRow : Hid ((w.alloc (.cells (cells idl) 30)).heap[w.heap.size]? = some (.cells (cells idl) 30 (0, 0))) := heap_alloc_new _ _
  have HA := hide ha
  have HV := hide hV
  have H20 := hide (hR (w.alloc (.cells (cells idl) 30)) idl hid nodes n rank hn hc hnc)
  clear hR ha hV hsz
  go_enter Try.func9, Try.ntmps9
  go_wp2_with (first
    | (show wpList _ _ _ (⟨_, .load 30 (.tmp 4), _, _, _, _⟩ :: _) _ _; refine wpList_load_row rfl 30 _ rfl w.heap.size rfl 30 (cells idl) _ _ HRow.out Try.underlying30 rfl HI.out ?_))
  refine H20.out.mono ?_
  rintro r w1 ⟨rfl, hN⟩
  have HN := hide ((hN.before ((Below.refl w.heap.size w).alloc (Nat.le_refl _) _)))
  have hsa : (w.alloc (.cells (cells idl) 30)).heap.size = w.heap.size + 1 := by simp
  rw [hsa] at HN
  clear hN H20 HRow HI hsa
  go_wp2_with fail
  go_loopw [19] (fun i wr => ∃ k : Nat, k ≤ n ∧ i = .int .i64 k ∧ Hid (NW w wr (w.heap.size + 1 + 1) (w.heap.size + 1 + 1 + 1) (w.heap.size + 1 + 1 + 1 + 1) idl rank nodes n k V)) (fun i _ => n - (intOf i).toNat)
  case atStart => exact ⟨0, Nat.zero_le _, rfl, NW.start HN.out⟩
  case round =>
    clear HN
    obtain ⟨k, hk, rfl, HN⟩ := hrel
    by_cases hlt : k < n
    · obtain ⟨b, o, rfl, hcell⟩ := HA.out k hlt
      obtain ⟨vx, vm, vc, hvk⟩ := HV.out k hlt
      have cv : wr.cell? ⟨b, o + k, none⟩ = some (V k) := by rw [HN.out.below.cell (block_lt_of_cell hcell)]; exact hcell
      have hbl := block_lt_of_cell hcell
      have ho := HN.out.ops k hlt
      have c17 : wr.cell? ⟨w.heap.size + 1 + 1, k * 42 + 17, none⟩ = some (.bool (decide (k < k))) := ho.c 1 _ rfl
      have c18 : wr.cell? ⟨w.heap.size + 1 + 1, k * 42 + 18, none⟩ = some (if k < k then V k else .slice none 0 0) := ho.c 2 _ rfl
      simp only [Nat.lt_irrefl, decide_false, if_false] at c17 c18
      have fg : ∀ j, wr.frozen? ⟨w.heap.size + 1 + 1, j, none⟩ = false := by
        obtain ⟨cur, r1, r2⟩ := HN.out.row
        exact fun j => frozen_of_row _ _ _ _ _ r2
      have hfin := hide (HN.out.step hlt)
      have i0 : (0 : Int) ≤ (k : Int) := by omega
      have i1 : (k : Int) < (n : Int) := by omega
      have nb : ¬ (b = w.heap.size + 1 + 1) := by simp at hbl; omega
      have nb' : ¬ (w.heap.size + 1 + 1 = b) := by simp at hbl; omega
      rw [hvk] at cv hfin
      clear hcell ho HA HV hbl hvk
      go_wp2
      go_roundw
      case rel => exact ⟨k + 1, by omega, by go_num, hfin⟩
      case measure => simp [intOf]; omega
    · obtain rfl : k = n := by omega
      go_wp2
      go_ret
      exact ⟨rfl, HN.out⟩
end Go.Proofs.Qxb6604549a.Parts
