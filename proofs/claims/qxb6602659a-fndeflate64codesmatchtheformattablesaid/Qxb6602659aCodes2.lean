import Derived.Test.Qxb6602659aCodes
namespace Go.Proofs.Qxb6602659a.Codes
open Go.RowKit

theorem below_row {B g : Nat} {w0 w : World} (hb : Below B w0 w) (hBg : B ≤ g) (cs : Array Value) : Below B w0 (w.setRow g cs) :=
  hb.trans ⟨rfl, rfl, rfl, by simp [World.setRow], fun k hk => setRow_other w g k cs (by omega)⟩
theorem Four.rowa {H : Nat} {w wr : World} {A B C D : Array Value} (h : Four H w wr A B C D) (A' : Array Value) : Four H w (wr.setRow H A') A' B C D :=
  ⟨setRow_heap _ _ _ _ _ _ h.a, by rw [setRow_other _ _ _ _ (by omega)]; exact h.b, by rw [setRow_other _ _ _ _ (by omega)]; exact h.c, by rw [setRow_other _ _ _ _ (by omega)]; exact h.d, below_row h.below (by omega) _⟩
theorem Four.rowb {H : Nat} {w wr : World} {A B C D : Array Value} (h : Four H w wr A B C D) (A' : Array Value) : Four H w (wr.setRow (H + 1) A') A A' C D :=
  ⟨by rw [setRow_other _ _ _ _ (by omega)]; exact h.a, setRow_heap _ _ _ _ _ _ h.b, by rw [setRow_other _ _ _ _ (by omega)]; exact h.c, by rw [setRow_other _ _ _ _ (by omega)]; exact h.d, below_row h.below (by omega) _⟩
theorem Four.rowc {H : Nat} {w wr : World} {A B C D : Array Value} (h : Four H w wr A B C D) (A' : Array Value) : Four H w (wr.setRow (H + 1 + 1) A') A B A' D :=
  ⟨by rw [setRow_other _ _ _ _ (by omega)]; exact h.a, by rw [setRow_other _ _ _ _ (by omega)]; exact h.b, setRow_heap _ _ _ _ _ _ h.c, by rw [setRow_other _ _ _ _ (by omega)]; exact h.d, below_row h.below (by omega) _⟩
theorem Four.rowd {H : Nat} {w wr : World} {A B C D : Array Value} (h : Four H w wr A B C D) (A' : Array Value) : Four H w (wr.setRow (H + 1 + 1 + 1) A') A B C A' :=
  ⟨by rw [setRow_other _ _ _ _ (by omega)]; exact h.a, by rw [setRow_other _ _ _ _ (by omega)]; exact h.b, by rw [setRow_other _ _ _ _ (by omega)]; exact h.c, setRow_heap _ _ _ _ _ _ h.d, below_row h.below (by omega) _⟩
theorem Four.later {w wr w1 : World} {A B C D : Array Value} {H : Nat} (h : Four H w wr A B C D) (hH : H + 3 < wr.heap.size) (hb : Below wr.heap.size wr w1) : Four H w w1 A B C D :=
  ⟨by rw [hb.block _ (by omega)]; exact h.a, by rw [hb.block _ (by omega)]; exact h.b, by rw [hb.block _ (by omega)]; exact h.c, by rw [hb.block _ (by omega)]; exact h.d, h.below.trans (hb.mono (by omega))⟩

theorem ends16 {H : Nat} {w wr : World} (h : Four H w wr LF EF DF XF) (tmps : Array Value) (h0 : tmps[0]?.getD undef = .pointer (some ⟨H, 0, none⟩)) (h1 : tmps[1]?.getD undef = .pointer (some ⟨H + 1, 0, none⟩))
    (h2 : tmps[2]?.getD undef = .pointer (some ⟨H + 1 + 1, 0, none⟩)) (h3 : tmps[3]?.getD undef = .pointer (some ⟨H + 1 + 1 + 1, 0, none⟩)) :
    (results Try.f16 tmps).run Try.prog wr = .ok (.tuple #[.agg LF, .agg EF, .agg DF, .agg XF]) wr := by
  have r0 := run_loadVar_row (P := Try.prog) wr H 32 32 LF (0, 0) _ h.a Try.underlying32 rfl (by kernel_rfl)
  have r1 := run_loadVar_row (P := Try.prog) wr (H + 1) 34 34 EF (0, 0) _ h.b Try.underlying34 rfl (by kernel_rfl)
  have r2 := run_loadVar_row (P := Try.prog) wr (H + 1 + 1) 35 35 DF (0, 0) _ h.c Try.underlying35 rfl (by kernel_rfl)
  have r3 := run_loadVar_row (P := Try.prog) wr (H + 1 + 1 + 1) 36 36 XF (0, 0) _ h.d Try.underlying36 rfl (by kernel_rfl)
  simp [results, Try.results16, h0, h1, h2, h3, asAddr, r0, r1, r2, r3]

theorem lf_ok : LF.all (·.oneCell') = true := by kernel_rfl
theorem ef_ok : EF.all (·.oneCell') = true := by kernel_rfl
theorem df_ok : DF.all (·.oneCell') = true := by kernel_rfl
theorem xf_ok : XF.all (·.oneCell') = true := by kernel_rfl
theorem lf_sz : 29 = LF.size := by kernel_rfl
theorem lf_i : (Try.prog.info? 32).map (·.size) = some LF.size := by kernel_rfl
theorem ef_sz : 29 = EF.size := by kernel_rfl
theorem ef_i : (Try.prog.info? 34).map (·.size) = some EF.size := by kernel_rfl
theorem df_sz : 32 = DF.size := by kernel_rfl
theorem df_i : (Try.prog.info? 35).map (·.size) = some DF.size := by kernel_rfl
theorem xf_sz : 32 = XF.size := by kernel_rfl
theorem xf_i : (Try.prog.info? 36).map (·.size) = some XF.size := by kernel_rfl

set_option maxHeartbeats 1000000 in
theorem zzcodes_any (w : World) :
    Calls Try.prog 16 #[] w fun e w' => e = .returned (.tuple #[.agg LF, .agg EF, .agg DF, .agg XF]) ∧ Below w.heap.size w w' := by
  go_enter Try.func16, Try.ntmps16
  go_wp2_with fail
  refine (codes_any _).mono ?_
  rintro e w1 ⟨rfl, hb⟩
  have F1 := (Four.start w _ _ _ _).later (by simp) hb
  have F2 := F1.rowa LF
  have F3 := F2.rowb EF
  have F4 := F3.rowc DF
  have F5 := F4.rowd XF
  clear hb
  have G := hide F5.below
  have G1 := hide F1.a
  have G2 := hide F2.b
  have G3 := hide F3.c
  have G4 := hide F4.d
  have G5 := hide F5
  clear F1 F2 F3 F4 F5
  go_wp2_with (first
    | (show wpList _ _ _ (⟨_, .store 32 (.tmp 0) (.tmp 5), _, _, _, _⟩ :: _) _ _; refine wpList_store_row rfl 32 _ _ rfl w.heap.size LF rfl rfl 32 _ G1.out lf_i lf_sz lf_ok ?_)
    | (show wpList _ _ _ (⟨_, .store 34 (.tmp 1) (.tmp 6), _, _, _, _⟩ :: _) _ _; refine wpList_store_row rfl 34 _ _ rfl (w.heap.size + 1) EF rfl rfl 34 _ G2.out ef_i ef_sz ef_ok ?_)
    | (show wpList _ _ _ (⟨_, .store 35 (.tmp 2) (.tmp 7), _, _, _, _⟩ :: _) _ _; refine wpList_store_row rfl 35 _ _ rfl (w.heap.size + 1 + 1) DF rfl rfl 35 _ G3.out df_i df_sz df_ok ?_)
    | (show wpList _ _ _ (⟨_, .store 36 (.tmp 3) (.tmp 8), _, _, _, _⟩ :: _) _ _; refine wpList_store_row rfl 36 _ _ rfl (w.heap.size + 1 + 1 + 1) XF rfl rfl 36 _ G4.out xf_i xf_sz xf_ok ?_))
  exact bodyPost_ret (ends16 G5.out _ rfl rfl rfl rfl) rfl ⟨rfl, G.out⟩
end Go.Proofs.Qxb6602659a.Codes
