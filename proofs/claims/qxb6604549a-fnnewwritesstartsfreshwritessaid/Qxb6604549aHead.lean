import Derived.Test.Qxb6604549aOps
namespace Go.Proofs.Qxb6604549a.Parts
open Go.RowKit

theorem headS {w X : World} {b o N : Nat} {ids : List Value} {rank : Int} {wr : Bool} {val heard answered held : Value} (h : OpAt w b o ids rank wr val heard answered held) (hX : ∀ j, X.cell? ⟨b, j, none⟩ = w.cell? ⟨b, j, none⟩) (ht : X.there N 0 16) :
    X.rangeAt b o ids ∧ X.there N 0 16 ∧ X.cell? ⟨b, o + 16, none⟩ = some (.int .u32 rank) ∧ X.cell? ⟨b, o + 17, none⟩ = some (.bool wr) ∧ X.cell? ⟨b, o + 18, none⟩ = some val ∧ X.cell? ⟨b, o + 19, none⟩ = some (.bool false) ∧ X.cell? ⟨b, o + 20, none⟩ = some (.int .i64 0) ∧ X.cell? ⟨b, o + 21, none⟩ = some (.bool false) ∧ X.cell? ⟨b, o + 22, none⟩ = some (.int .u64 0) ∧ X.cell? ⟨b, o + 23, none⟩ = some (.bool false) ∧ X.cell? ⟨b, o + 24, none⟩ = some (.bool false) ∧ X.cell? ⟨b, o + 25, none⟩ = some (.int .i64 0) ∧ X.cell? ⟨b, o + 27, none⟩ = some (.int .i64 0) := by
  refine ⟨fun j v hv => ?_, ht, ?_, ?_, ?_, ?_, ?_, ?_, ?_, ?_, ?_, ?_, ?_⟩
  · rw [hX]; exact h.id j v hv
  · rw [hX]; exact h.c 0 _ rfl
  · rw [hX]; exact h.c 1 _ rfl
  · rw [hX]; exact h.c 2 _ rfl
  · rw [hX]; exact h.c 3 _ rfl
  · rw [hX]; exact h.c 4 _ rfl
  · rw [hX]; exact h.c 5 _ rfl
  · rw [hX]; exact h.c 6 _ rfl
  · rw [hX]; exact h.c 7 _ rfl
  · rw [hX]; exact h.c 8 _ rfl
  · rw [hX]; exact h.c 9 _ rfl
  · rw [hX]; exact h.c 11 _ rfl

theorem below_setCells {B : Nat} {a : World} (b : Nat) (hb : B ≤ b) : ∀ (vs : List Value) (o : Nat) {w : World}, Below B a w → Below B a (w.setCells b o vs)
  | [], _, _, h => h
  | v :: r, o, _, h => below_setCells b hb r (o + 1) (h.setCell (p := ⟨b, o, none⟩) hb v)

set_option maxRecDepth 100000 in
set_option maxHeartbeats 4000000 in
theorem head21 (w : World) (b o : Nat) (ids : List Value) (rank : Int) (wr : Bool) (val heard answered held : Value) (h : OpAt w b o ids rank wr val heard answered held) (h1 : ∀ v ∈ ids, v.oneCell' = true) :
    Calls Try.prog 21 #[.pointer (some ⟨b, o, none⟩)] w fun r w' => r = .returned (.tuple #[.agg ids.toArray, .int .u32 rank, .bool wr, val, .bool false, .int .i64 0, .bool false, .int .u64 0, .bool false, .bool false, .int .i64 0, .int .i64 0]) ∧ Below w.heap.size w w' := by
  have hb : b < w.heap.size := block_lt_of_cell (h.c 0 _ rfl)
  have hlen := h.len
  obtain ⟨X, hX⟩ : ∃ X, X = (w.alloc (.cells #[Value.int .u8 0, .int .u8 0, .int .u8 0, .int .u8 0, .int .u8 0, .int .u8 0, .int .u8 0, .int .u8 0, .int .u8 0, .int .u8 0, .int .u8 0, .int .u8 0, .int .u8 0, .int .u8 0, .int .u8 0, .int .u8 0] 30)).drew := ⟨_, rfl⟩
  have hc : ∀ j, X.cell? ⟨b, j, none⟩ = w.cell? ⟨b, j, none⟩ := fun j => by rw [hX]; exact World.cell?_of_block (w := w) (heap_alloc_old _ _ hb)
  have hrow : X.heap[w.heap.size]? = some (.cells #[Value.int .u8 0, .int .u8 0, .int .u8 0, .int .u8 0, .int .u8 0, .int .u8 0, .int .u8 0, .int .u8 0, .int .u8 0, .int .u8 0, .int .u8 0, .int .u8 0, .int .u8 0, .int .u8 0, .int .u8 0, .int .u8 0] 30 (0, 0)) := by rw [hX]; exact heap_alloc_new _ _
  have ht : X.there w.heap.size 0 16 := fun j hj => ⟨by rw [cell_of_row _ _ _ _ _ _ hrow]; simp; omega, frozen_of_row _ _ _ _ _ hrow⟩
  have k1 := headS h hc ht
  have k2 : ∀ l, _ := fun l => headS h (X := X.setCells w.heap.size 0 l) (N := w.heap.size) (fun j => by rw [World.cell?_setCells_out _ _ _ _ _ (fun e _ => absurd e (by simp; omega))]; exact hc j) (World.there_setCells ht _ _ _)
  rw [hX] at k1 k2
  have K1 := hide k1
  have K2 := hide k2
  clear k1 k2 hc hrow ht h hX X
  have hu := Try.underlying30
  have hi : (Try.prog.info? 30).map (·.size) = some ids.length := by rw [hlen]; kernel_rfl
  go_enter Try.func21, Try.ntmps21
  go_wp2
  go_region_held3 (fun w' => w'.rangeAt b o ids ∧ w'.there w.heap.size 0 16 ∧ w'.cell? ⟨b, o + 16, none⟩ = some (.int .u32 rank) ∧ w'.cell? ⟨b, o + 17, none⟩ = some (.bool wr) ∧ w'.cell? ⟨b, o + 18, none⟩ = some val ∧ w'.cell? ⟨b, o + 19, none⟩ = some (.bool false) ∧ w'.cell? ⟨b, o + 20, none⟩ = some (.int .i64 0) ∧ w'.cell? ⟨b, o + 21, none⟩ = some (.bool false) ∧ w'.cell? ⟨b, o + 22, none⟩ = some (.int .u64 0) ∧ w'.cell? ⟨b, o + 23, none⟩ = some (.bool false) ∧ w'.cell? ⟨b, o + 24, none⟩ = some (.bool false) ∧ w'.cell? ⟨b, o + 25, none⟩ = some (.int .i64 0) ∧ w'.cell? ⟨b, o + 27, none⟩ = some (.int .i64 0)) (first | exact K1.out | exact K2.out _) (fail)
  go_wp2
  have r0 := run_loadVar_mid (P := Try.prog) _ w.heap.size 0 30 ids _ (World.rangeAt_setCells_same _ w.heap.size 0 ids (by rw [hlen]; exact K1.out.2.1)) hu rfl hi
  exact bodyPost_ret (v := .tuple #[.agg ids.toArray, .int .u32 rank, .bool wr, val, .bool false, .int .i64 0, .bool false, .int .u64 0, .bool false, .bool false, .int .i64 0, .int .i64 0]) (by simp [results, Try.results21, asAddr, r0]) rfl ⟨rfl, below_setCells _ (Nat.le_refl _) _ _ ((Below.refl _ _).alloc (Nat.le_refl _) _).drew⟩
end Go.Proofs.Qxb6604549a.Parts
