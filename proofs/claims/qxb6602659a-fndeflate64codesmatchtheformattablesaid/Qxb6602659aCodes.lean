import Derived.Test.Qxb6602659aProg
import Derived.WalkKit
import Derived.Deep.MidRow
namespace Go.Proofs.Qxb6602659a.Codes
open Go.RowKit

/-! ### The four tables as plain functions -/
def le (k : Nat) : Int := if k < 8 then 0 else ((k : Int) - 4) / 4
def lbT : List Int := [3, 4, 5, 6, 7, 8, 9, 10, 11, 13, 15, 17, 19, 23, 27, 31, 35, 43, 51, 59, 67, 83, 99, 115, 131, 163, 195, 227]
def lb (k : Nat) : Int := lbT.getD k 0
def de (k : Nat) : Int := if k < 4 then 0 else ((k : Int) - 2) / 2
def dbT : List Int := [1, 2, 3, 4, 5, 7, 9, 13, 17, 25, 33, 49, 65, 97, 129, 193, 257, 385, 513, 769, 1025, 1537, 2049, 3073, 4097, 6145, 8193, 12289, 16385, 24577, 32769, 49153]
def db (k : Nat) : Int := dbT.getD k 0
/-- A row of n cells: the first m are f's, the rest 0. -/
def Tab (n : Nat) (kd : IntKind) (f : Nat → Int) (m : Nat) : Array Value := Array.ofFn (n := n) fun j => .int kd (if j.val < m then f j else 0)
theorem Tab_at (n : Nat) (kd : IntKind) (f : Nat → Int) (m j : Nat) (h : j < n) : (Tab n kd f m)[j]? = some (.int kd (if j < m then f j else 0)) := by
  simp [Tab, h]
theorem Tab_set (n : Nat) (kd : IntKind) (f : Nat → Int) (m : Nat) (v : Int) (hv : v = f m) : (Tab n kd f m).setIfInBounds m (.int kd v) = Tab n kd f (m + 1) := by
  subst hv
  apply Array.ext
  · simp [Tab]
  · intro i h1 h2
    have h3 : i < (Tab n kd f m).size := by simpa using h1
    rw [Array.getElem_setIfInBounds h3]
    by_cases e : m = i
    · subst e; simp [Tab]
    · have : (i < m + 1) = (i < m) := by apply propext; omega
      simp [Tab, e, this]
theorem Tab_zero (n : Nat) (kd : IntKind) (f : Nat → Int) (m : Nat) (h : f m = 0) : Tab n kd f (m + 1) = Tab n kd f m := by
  apply Array.ext
  · simp [Tab]
  · intro i h1 h2
    simp only [Tab, Array.getElem_ofFn]
    by_cases e : i = m
    · subst e; simp [h]
    · have : (i < m + 1) = (i < m) := by apply propext; omega
      simp [this]
theorem Tab_size (n : Nat) (kd : IntKind) (f : Nat → Int) (m : Nat) : (Tab n kd f m).size = n := by simp [Tab]

/-! ### The four blocks of the call -/
structure Four (H : Nat) (w wr : World) (A B C D : Array Value) : Prop where
  a : wr.heap[H]? = some (.cells A 32 (0, 0))
  b : wr.heap[H + 1]? = some (.cells B 34 (0, 0))
  c : wr.heap[H + 2]? = some (.cells C 35 (0, 0))
  d : wr.heap[H + 3]? = some (.cells D 36 (0, 0))
  below : Below H w wr
theorem Four.seta {H : Nat} {w wr : World} {A B C D : Array Value} (h : Four H w wr A B C D) (i : Nat) (v : Value) : Four H w (wr.setCell ⟨H, i, none⟩ v) (A.setIfInBounds i v) B C D :=
  ⟨heap_setCell_same _ _ _ _ _ _ h.a, by rw [heap_setCell_other _ _ _ _ (by simp)]; exact h.b, by rw [heap_setCell_other _ _ _ _ (by simp)]; exact h.c, by rw [heap_setCell_other _ _ _ _ (by simp)]; exact h.d, h.below.setCell (by simp) _⟩
theorem Four.setb {H : Nat} {w wr : World} {A B C D : Array Value} (h : Four H w wr A B C D) (i : Nat) (v : Value) : Four H w (wr.setCell ⟨H + 1, i, none⟩ v) A (B.setIfInBounds i v) C D :=
  ⟨by rw [heap_setCell_other _ _ _ _ (by simp)]; exact h.a, heap_setCell_same _ _ _ _ _ _ h.b, by rw [heap_setCell_other _ _ _ _ (by simp)]; exact h.c, by rw [heap_setCell_other _ _ _ _ (by simp)]; exact h.d, h.below.setCell (by simp) _⟩
theorem Four.setc {H : Nat} {w wr : World} {A B C D : Array Value} (h : Four H w wr A B C D) (i : Nat) (v : Value) : Four H w (wr.setCell ⟨H + 1 + 1, i, none⟩ v) A B (C.setIfInBounds i v) D :=
  ⟨by rw [heap_setCell_other _ _ _ _ (by simp <;> omega)]; exact h.a, by rw [heap_setCell_other _ _ _ _ (by simp)]; exact h.b, heap_setCell_same _ _ _ _ _ _ h.c, by rw [heap_setCell_other _ _ _ _ (by simp)]; exact h.d, h.below.setCell (by simp <;> omega) _⟩
theorem Four.setd {H : Nat} {w wr : World} {A B C D : Array Value} (h : Four H w wr A B C D) (i : Nat) (v : Value) : Four H w (wr.setCell ⟨H + 1 + 1 + 1, i, none⟩ v) A B C (D.setIfInBounds i v) :=
  ⟨by rw [heap_setCell_other _ _ _ _ (by simp <;> omega)]; exact h.a, by rw [heap_setCell_other _ _ _ _ (by simp <;> omega)]; exact h.b, by rw [heap_setCell_other _ _ _ _ (by simp)]; exact h.c, heap_setCell_same _ _ _ _ _ _ h.d, h.below.setCell (by simp <;> omega) _⟩
theorem Four.drew {H : Nat} {w wr : World} {A B C D : Array Value} (h : Four H w wr A B C D) : Four H w wr.drew A B C D :=
  ⟨h.a, h.b, h.c, h.d, h.below.drew⟩
theorem Four.start (w : World) (A B C D : Array Value) : Four w.heap.size w ((((w.alloc (.cells A 32)).alloc (.cells B 34)).alloc (.cells C 35)).alloc (.cells D 36)) A B C D := by
  refine ⟨?_, ?_, ?_, ?_, ?_⟩
  · rw [heap_alloc_old _ _ (by simp <;> omega), heap_alloc_old _ _ (by simp <;> omega), heap_alloc_old _ _ (by simp)]; exact heap_alloc_new _ _
  · rw [heap_alloc_old _ _ (by simp <;> omega), heap_alloc_old _ _ (by simp)]
    have := heap_alloc_new (w.alloc (.cells A 32)) (.cells B 34); simpa using this
  · rw [heap_alloc_old _ _ (by simp)]
    have := heap_alloc_new ((w.alloc (.cells A 32)).alloc (.cells B 34)) (.cells C 35); simpa using this
  · have := heap_alloc_new (((w.alloc (.cells A 32)).alloc (.cells B 34)).alloc (.cells C 35)) (.cells D 36); simpa using this
  · exact ((((Below.refl _ _).alloc (by simp) _).alloc (by simp) _).alloc (by simp <;> omega) _).alloc (by simp <;> omega) _
theorem hide {p : Prop} (h : p) : Hid p := h

theorem lb_lo (k : Nat) (h : k < 8) : wrap64 (lb k + 1) = lb (k + 1) := by
  revert k; decide +kernel
theorem lb_hi : ∀ k : Nat, k < 27 → 8 ≤ k → wrap64 (lb k + wrap64 (2 ^ ((k - 4) / 4))) = lb (k + 1) := by
  decide +kernel
theorem db_lo : ∀ k : Nat, k < 4 → wrap64 (db k + 1) = db (k + 1) := by
  decide +kernel
theorem db_hi : ∀ k : Nat, k < 31 → 4 ≤ k → wrap64 (db k + wrap64 (2 ^ ((k - 2) / 2))) = db (k + 1) := by
  decide +kernel

/-- What loop 1 leaves behind k rounds. -/
theorem step1_lo {H : Nat} {w wr : World} {k : Nat} {C D : Array Value} (h : Four H w wr (Tab 29 .i64 lb (k + 1)) (Tab 29 .u64 le k) C D) (h8 : k < 8) :
    Four H w (wr.setCell ⟨H, k + 1, none⟩ (.int .i64 (wrap64 (lb k + 1)))).drew (Tab 29 .i64 lb (k + 1 + 1)) (Tab 29 .u64 le (k + 1)) C D := by
  have := (h.seta (k + 1) (.int .i64 (wrap64 (lb k + 1)))).drew
  rw [Tab_set _ _ _ _ _ (lb_lo k h8)] at this
  rw [Tab_zero 29 .u64 le k (by simp [le, h8])]
  exact this
theorem step1_hi {H : Nat} {w wr : World} {k : Nat} {C D : Array Value} (h : Four H w wr (Tab 29 .i64 lb (k + 1)) (Tab 29 .u64 le k) C D) (h8 : ¬ k < 8) (h27 : k < 27) :
    Four H w ((wr.setCell ⟨H + 1, k, none⟩ (.int .u64 (((k : Int) - 4) / 4))).setCell ⟨H, k + 1, none⟩ (.int .i64 (wrap64 (lb k + wrap64 (2 ^ ((k - 4) / 4)))))).drew (Tab 29 .i64 lb (k + 1 + 1)) (Tab 29 .u64 le (k + 1)) C D := by
  have := ((h.setb k (.int .u64 (((k : Int) - 4) / 4))).seta (k + 1) (.int .i64 (wrap64 (lb k + wrap64 (2 ^ ((k - 4) / 4)))))).drew
  rw [Tab_set _ _ _ _ _ (lb_hi k h27 (by omega)), Tab_set _ _ _ _ _ (by simp [le, h8])] at this
  exact this
theorem step1_end {H : Nat} {w wr : World} {C D : Array Value} (h : Four H w wr (Tab 29 .i64 lb (27 + 1)) (Tab 29 .u64 le 27) C D) :
    Four H w (wr.setCell ⟨H + 1, 27, none⟩ (.int .u64 5)) (Tab 29 .i64 lb (28 + 1)) (Tab 29 .u64 le 28) C D := by
  have := (h.setb 27 (.int .u64 5))
  rw [Tab_set _ _ _ _ _ (by decide +kernel)] at this
  rw [Tab_zero 29 .i64 lb 28 (by decide +kernel)]
  exact this
theorem step2_lo {H : Nat} {w wr : World} {k : Nat} {A B : Array Value} (h : Four H w wr A B (Tab 32 .i64 db (k + 1)) (Tab 32 .u64 de k)) (h8 : k < 4) :
    Four H w (wr.setCell ⟨H + 1 + 1, k + 1, none⟩ (.int .i64 (wrap64 (db k + 1)))).drew A B (Tab 32 .i64 db (k + 1 + 1)) (Tab 32 .u64 de (k + 1)) := by
  have := (h.setc (k + 1) (.int .i64 (wrap64 (db k + 1)))).drew
  rw [Tab_set _ _ _ _ _ (db_lo k h8)] at this
  rw [Tab_zero 32 .u64 de k (by simp [de, h8])]
  exact this
theorem step2_hi {H : Nat} {w wr : World} {k : Nat} {A B : Array Value} (h : Four H w wr A B (Tab 32 .i64 db (k + 1)) (Tab 32 .u64 de k)) (h8 : ¬ k < 4) (h27 : k < 31) :
    Four H w ((wr.setCell ⟨H + 1 + 1 + 1, k, none⟩ (.int .u64 (((k : Int) - 2) / 2))).setCell ⟨H + 1 + 1, k + 1, none⟩ (.int .i64 (wrap64 (db k + wrap64 (2 ^ ((k - 2) / 2)))))).drew A B (Tab 32 .i64 db (k + 1 + 1)) (Tab 32 .u64 de (k + 1)) := by
  have := ((h.setd k (.int .u64 (((k : Int) - 2) / 2))).setc (k + 1) (.int .i64 (wrap64 (db k + wrap64 (2 ^ ((k - 2) / 2)))))).drew
  rw [Tab_set _ _ _ _ _ (db_hi k h27 (by omega)), Tab_set _ _ _ _ _ (by simp [de, h8])] at this
  exact this
theorem step2_end {H : Nat} {w wr : World} {A B : Array Value} (h : Four H w wr A B (Tab 32 .i64 db (31 + 1)) (Tab 32 .u64 de 31)) :
    Four H w (wr.setCell ⟨H + 1 + 1 + 1, 31, none⟩ (.int .u64 14)) A B (Tab 32 .i64 db (32 + 1)) (Tab 32 .u64 de 32) := by
  have := (h.setd 31 (.int .u64 14))
  rw [Tab_set _ _ _ _ _ (by decide +kernel)] at this
  rw [Tab_zero 32 .i64 db 32 (by decide +kernel)]
  exact this

/-- The four tables as the function hands them back. -/
def LF : Array Value := (Tab 29 .i64 lb (28 + 1)).setIfInBounds 28 (.int .i64 3)
def EF : Array Value := (Tab 29 .u64 le 28).setIfInBounds 28 (.int .u64 16)
def DF : Array Value := Tab 32 .i64 db (32 + 1)
def XF : Array Value := Tab 32 .u64 de 32

theorem mid {H : Nat} {w wr : World} {C D : Array Value} (h : Four H w wr (Tab 29 .i64 lb (28 + 1)) (Tab 29 .u64 le 28) C D) :
    Four H w (((wr.setCell ⟨H, 28, none⟩ (.int .i64 3)).setCell ⟨H + 1, 28, none⟩ (.int .u64 16)).setCell ⟨H + 1 + 1, 0, none⟩ (.int .i64 1)) LF EF (C.setIfInBounds 0 (.int .i64 1)) D :=
  ((h.seta 28 (.int .i64 3)).setb 28 (.int .u64 16)).setc 0 (.int .i64 1)

theorem ends {H : Nat} {w wr : World} (h : Four H w wr LF EF DF XF) (tmps : Array Value) (h0 : tmps[0]?.getD undef = .pointer (some ⟨H, 0, none⟩)) (h1 : tmps[1]?.getD undef = .pointer (some ⟨H + 1, 0, none⟩))
    (h2 : tmps[2]?.getD undef = .pointer (some ⟨H + 1 + 1, 0, none⟩)) (h3 : tmps[3]?.getD undef = .pointer (some ⟨H + 1 + 1 + 1, 0, none⟩)) :
    (results Try.f19 tmps).run Try.prog wr = .ok (.tuple #[.agg LF, .agg EF, .agg DF, .agg XF]) wr := by
  have r0 := run_loadVar_row (P := Try.prog) wr H 32 32 LF (0, 0) _ h.a Try.underlying32 rfl (by kernel_rfl)
  have r1 := run_loadVar_row (P := Try.prog) wr (H + 1) 34 34 EF (0, 0) _ h.b Try.underlying34 rfl (by kernel_rfl)
  have r2 := run_loadVar_row (P := Try.prog) wr (H + 1 + 1) 35 35 DF (0, 0) _ h.c Try.underlying35 rfl (by kernel_rfl)
  have r3 := run_loadVar_row (P := Try.prog) wr (H + 1 + 1 + 1) 36 36 XF (0, 0) _ h.d Try.underlying36 rfl (by kernel_rfl)
  simp [results, Try.results19, h0, h1, h2, h3, asAddr, r0, r1, r2, r3]

theorem start_rows (w : World) : Four w.heap.size w
    ((((w.alloc (.cells #[Value.int .i64 3, .int .i64 0, .int .i64 0, .int .i64 0, .int .i64 0, .int .i64 0, .int .i64 0, .int .i64 0, .int .i64 0, .int .i64 0, .int .i64 0, .int .i64 0, .int .i64 0, .int .i64 0, .int .i64 0, .int .i64 0, .int .i64 0, .int .i64 0, .int .i64 0, .int .i64 0, .int .i64 0, .int .i64 0, .int .i64 0, .int .i64 0, .int .i64 0, .int .i64 0, .int .i64 0, .int .i64 0, .int .i64 0] 32)).alloc
      (.cells #[Value.int .u64 0, .int .u64 0, .int .u64 0, .int .u64 0, .int .u64 0, .int .u64 0, .int .u64 0, .int .u64 0, .int .u64 0, .int .u64 0, .int .u64 0, .int .u64 0, .int .u64 0, .int .u64 0, .int .u64 0, .int .u64 0, .int .u64 0, .int .u64 0, .int .u64 0, .int .u64 0, .int .u64 0, .int .u64 0, .int .u64 0, .int .u64 0, .int .u64 0, .int .u64 0, .int .u64 0, .int .u64 0, .int .u64 0] 34)).alloc
      (.cells #[Value.int .i64 0, .int .i64 0, .int .i64 0, .int .i64 0, .int .i64 0, .int .i64 0, .int .i64 0, .int .i64 0, .int .i64 0, .int .i64 0, .int .i64 0, .int .i64 0, .int .i64 0, .int .i64 0, .int .i64 0, .int .i64 0, .int .i64 0, .int .i64 0, .int .i64 0, .int .i64 0, .int .i64 0, .int .i64 0, .int .i64 0, .int .i64 0, .int .i64 0, .int .i64 0, .int .i64 0, .int .i64 0, .int .i64 0, .int .i64 0, .int .i64 0, .int .i64 0] 35)).alloc
      (.cells #[Value.int .u64 0, .int .u64 0, .int .u64 0, .int .u64 0, .int .u64 0, .int .u64 0, .int .u64 0, .int .u64 0, .int .u64 0, .int .u64 0, .int .u64 0, .int .u64 0, .int .u64 0, .int .u64 0, .int .u64 0, .int .u64 0, .int .u64 0, .int .u64 0, .int .u64 0, .int .u64 0, .int .u64 0, .int .u64 0, .int .u64 0, .int .u64 0, .int .u64 0, .int .u64 0, .int .u64 0, .int .u64 0, .int .u64 0, .int .u64 0, .int .u64 0, .int .u64 0] 36))
    (Tab 29 .i64 lb (0 + 1)) (Tab 29 .u64 le 0) (Tab 32 .i64 db 0) (Tab 32 .u64 de 0) := Four.start w _ _ _ _

set_option maxHeartbeats 1000000 in
theorem codes_any (w : World) :
    Calls Try.prog 19 #[] w fun e w' => e = .returned (.tuple #[.agg LF, .agg EF, .agg DF, .agg XF]) ∧ Below w.heap.size w w' := by
  go_enter Try.func19, Try.ntmps19
  go_wp2
  go_loopw [7] (fun i wr => ∃ k : Nat, k ≤ 28 ∧ i = .int .i64 k ∧ Four w.heap.size w wr (Tab 29 .i64 lb (k + 1)) (Tab 29 .u64 le k) (Tab 32 .i64 db 0) (Tab 32 .u64 de 0))
    (fun i _ => 28 - (intOf i).toNat)
  case atStart => exact ⟨0, by omega, rfl, start_rows w⟩
  case round =>
    obtain ⟨k, hk, rfl, hF⟩ := hrel
    by_cases hlt : k < 28
    · have cL : wr.cell? ⟨w.heap.size, k, none⟩ = some (.int .i64 (lb k)) := by rw [cell_of_row _ _ _ _ _ _ hF.a, Tab_at _ _ _ _ _ (by omega)]; simp
      have cN : wr.cell? ⟨w.heap.size, k + 1, none⟩ = some (.int .i64 0) := by rw [cell_of_row _ _ _ _ _ _ hF.a, Tab_at _ _ _ _ _ (by omega)]; simp
      have fL : ∀ j, wr.frozen? ⟨w.heap.size, j, none⟩ = false := fun j => frozen_of_row _ _ _ _ _ hF.a
      have cE : wr.cell? ⟨w.heap.size + 1, k, none⟩ = some (.int .u64 0) := by rw [cell_of_row _ _ _ _ _ _ hF.b, Tab_at _ _ _ _ _ (by omega)]; simp
      have fE : ∀ j, wr.frozen? ⟨w.heap.size + 1, j, none⟩ = false := fun j => frozen_of_row _ _ _ _ _ hF.b
      have i0 : (0 : Int) ≤ (k : Int) := by omega
      have i1 : (k : Int) < 29 := by omega
      by_cases h27 : k < 27
      · have i2 : (k : Int) + 1 < 29 := by omega
        have i3 : (k : Int) < 27 := by omega
        by_cases h8 : k < 8
        · have hfin := hide (step1_lo hF h8)
          have HF := hide hF
          clear hF
          generalize lb k = b at *
          go_wp2
          go_region
          go_wp2
          go_roundw
          case rel => exact ⟨k + 1, by omega, by go_num, hfin.out⟩
          case measure => simp [intOf]; omega
        · have hfin := hide (step1_hi hF h8 h27)
          have HF := hide hF
          clear hF
          generalize lb k = b at *
          go_wp2
          go_region
          go_wp2
          go_roundw
          case rel => exact ⟨k + 1, by omega, by go_num, hfin.out⟩
          case measure => simp [intOf]; omega
      · obtain rfl : k = 27 := by omega
        have hfin := hide (step1_end hF)
        have HF := hide hF
        clear hF
        go_wp2
        go_roundw
        case rel => exact ⟨28, by omega, by go_num, hfin.out⟩
        case measure => simp [intOf]
    · obtain rfl : k = 28 := by omega
      have cL : wr.cell? ⟨w.heap.size, 28, none⟩ = some (.int .i64 0) := by rw [cell_of_row _ _ _ _ _ _ hF.a, Tab_at _ _ _ _ _ (by omega)]; rfl
      have fL : ∀ j, wr.frozen? ⟨w.heap.size, j, none⟩ = false := fun j => frozen_of_row _ _ _ _ _ hF.a
      have cE : wr.cell? ⟨w.heap.size + 1, 28, none⟩ = some (.int .u64 0) := by rw [cell_of_row _ _ _ _ _ _ hF.b, Tab_at _ _ _ _ _ (by omega)]; rfl
      have fE : ∀ j, wr.frozen? ⟨w.heap.size + 1, j, none⟩ = false := fun j => frozen_of_row _ _ _ _ _ hF.b
      have cD : wr.cell? ⟨w.heap.size + 1 + 1, 0, none⟩ = some (.int .i64 0) := by rw [cell_of_row _ _ _ _ _ _ hF.c, Tab_at _ _ _ _ _ (by omega)]; rfl
      have fD : ∀ j, wr.frozen? ⟨w.heap.size + 1 + 1, j, none⟩ = false := fun j => frozen_of_row _ _ _ _ _ hF.c
      have hfin := hide (mid hF)
      clear hF
      go_wp2
      go_loopw [35] (fun i wq => ∃ k : Nat, k ≤ 32 ∧ i = .int .i64 k ∧ Four w.heap.size w wq LF EF (Tab 32 .i64 db (k + 1)) (Tab 32 .u64 de k))
        (fun i _ => 32 - (intOf i).toNat)
      case atStart =>
        refine ⟨0, by omega, rfl, ?_⟩
        rw [← Tab_set 32 .i64 db 0 1 (by decide +kernel)]
        exact hfin.out
      case round =>
        clear hfin cL fL cE fE cD fD
        obtain ⟨k, hk, rfl, hF⟩ := hrel
        by_cases hlt : k < 32
        · have cL : wr.cell? ⟨w.heap.size + 1 + 1, k, none⟩ = some (.int .i64 (db k)) := by rw [cell_of_row _ _ _ _ _ _ hF.c, Tab_at _ _ _ _ _ (by omega)]; simp
          have fL : ∀ j, wr.frozen? ⟨w.heap.size + 1 + 1, j, none⟩ = false := fun j => frozen_of_row _ _ _ _ _ hF.c
          have cE : wr.cell? ⟨w.heap.size + 1 + 1 + 1, k, none⟩ = some (.int .u64 0) := by rw [cell_of_row _ _ _ _ _ _ hF.d, Tab_at _ _ _ _ _ (by omega)]; simp
          have fE : ∀ j, wr.frozen? ⟨w.heap.size + 1 + 1 + 1, j, none⟩ = false := fun j => frozen_of_row _ _ _ _ _ hF.d
          have i0 : (0 : Int) ≤ (k : Int) := by omega
          have i1 : (k : Int) < 32 := by omega
          by_cases h27 : k < 31
          · have cN : wr.cell? ⟨w.heap.size + 1 + 1, k + 1, none⟩ = some (.int .i64 0) := by rw [cell_of_row _ _ _ _ _ _ hF.c, Tab_at _ _ _ _ _ (by omega)]; simp
            have i2 : (k : Int) + 1 < 32 := by omega
            have i3 : (k : Int) < 31 := by omega
            by_cases h8 : k < 4
            · have hfin := hide (step2_lo hF h8)
              clear hF
              generalize db k = b at *
              go_wp2
              go_region
              go_wp2
              go_roundw
              case rel => exact ⟨k + 1, by omega, by go_num, hfin.out⟩
              case measure => simp [intOf]; omega
            · have hfin := hide (step2_hi hF h8 h27)
              clear hF
              generalize db k = b at *
              go_wp2
              go_region
              go_wp2
              go_roundw
              case rel => exact ⟨k + 1, by omega, by go_num, hfin.out⟩
              case measure => simp [intOf]; omega
          · obtain rfl : k = 31 := by omega
            have hfin := hide (step2_end hF)
            clear hF
            go_wp2
            go_roundw
            case rel => exact ⟨32, by omega, by go_num, hfin.out⟩
            case measure => simp [intOf]
        · obtain rfl : k = 32 := by omega
          have HF := hide hF
          clear hF
          go_wp2
          exact bodyPost_ret (ends HF.out _ (by simp) (by simp) (by simp) (by simp)) rfl ⟨rfl, HF.out.below⟩
end Go.Proofs.Qxb6602659a.Codes
