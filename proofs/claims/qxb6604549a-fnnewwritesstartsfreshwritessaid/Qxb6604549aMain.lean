import Derived.Test.Qxb6604549aWrites2
namespace Go.Proofs.Qxb6604549a.Parts
open Go.RowKit

theorem Src.later {w w' : World} {a : Option Addr} {n cap : Nat} {X : Nat → Option (List Int)} (h : Src w a n cap X) (hb : Below w.heap.size w w') : Src w' a n cap X := by
  obtain ⟨hl, h⟩ := h
  refine ⟨hl, ?_⟩
  rcases h with h | ⟨x, rfl, h⟩
  · exact .inl h
  · refine .inr ⟨x, rfl, fun j hj => ?_⟩
    obtain ⟨v, h1, h2, h3⟩ := h j hj
    exact ⟨v, by rw [hb.cell (block_lt_of_cell h1)]; exact h1, h2.later hb, h3⟩
/-- A clone as it stands in memory. -/
def Has (w : World) (b : Option Addr) (n : Nat) (X : Nat → Option (List Int)) : Prop :=
  ∀ j, j < n → ∃ g v x m c, b = some ⟨g, 0, none⟩ ∧ w.cell? ⟨g, 0 + j, none⟩ = some v ∧ v = .slice x m c ∧ Bs w v (X j)
theorem Has.of {w w' : World} {b : Option Addr} {n : Nat} {X : Nat → Option (List Int)} (h : 0 < n → b = some ⟨w.heap.size, 0, none⟩ ∧ Cl w w' w.heap.size n n X) : Has w' b n X := by
  intro j hj
  obtain ⟨rfl, cur, h1, h2, h3, h4, h5⟩ := h (by omega)
  obtain ⟨v, e1, e2⟩ := h3 j hj
  obtain ⟨x, c, e3, _⟩ := e2.bs.form
  exact ⟨_, v, x, _, c, rfl, by rw [Nat.zero_add, cell_of_row _ _ _ _ _ _ h2]; exact e1, e3, e2.bs⟩
theorem Has.later {w w' : World} {b : Option Addr} {n : Nat} {X : Nat → Option (List Int)} (h : Has w b n X) (hb : Below w.heap.size w w') : Has w' b n X := by
  intro j hj
  obtain ⟨g, v, x, m, c, h1, h2, h3, h4⟩ := h j hj
  exact ⟨g, v, x, m, c, h1, by rw [hb.cell (block_lt_of_cell h2)]; exact h2, h3, h4.later hb⟩
theorem Has.src {w : World} {b : Option Addr} {n : Nat} {X : Nat → Option (List Int)} (h : Has w b n X) (hn : n ≤ 4096) (hx : ∀ j, j < n → blen (X j) ≤ 1048576) : Src w b n n X := by
  refine ⟨by unfold maxLen; omega, ?_⟩
  cases b with
  | none =>
    by_cases h0 : n = 0
    · exact .inl ⟨rfl, h0, h0⟩
    · obtain ⟨g, v, x, m, c, h1, _⟩ := h 0 (by omega)
      cases h1
  | some a =>
    refine .inr ⟨a, rfl, fun j hj => ?_⟩
    obtain ⟨g, v, x, m, c, h1, h2, h3, h4⟩ := h j hj
    cases h1
    refine ⟨v, ?_, h4, by have := hx j hj; unfold maxLen; omega⟩
    rw [show (⟨g, 0, none⟩ : Addr).add j = ⟨g, 0 + j, none⟩ by unfold Addr.add; split <;> simp_all]
    exact h2

/-- The value in place j of a clone. -/
def valOf (w : World) (b : Option Addr) (j : Nat) : Value := (b.bind fun a => w.cell? ⟨a.block, 0 + j, none⟩).getD undef

set_option maxRecDepth 100000 in
set_option maxHeartbeats 4000000 in
theorem main3 (hR : Reads20) (w : World) (idl : List Int) (hid : idl.length = 16) (nodes : Nat) (rank : Int) (a : Option Addr) (n cap : Nat) (X : Nat → Option (List Int)) (hs : Src w a n cap X) (hn : nodes ≤ 65536) :
    Calls Try.prog 3 #[.agg (cells idl), .int .i64 nodes, .int .u32 rank, .slice a n cap] w fun r w' => r = .returned (.bool true) ∧ Below w.heap.size w w' := by
  have hln := hs.1
  unfold maxLen at hln
  have hsz : (cells idl).size = 16 := by simp [cells, hid]
  have HI : Hid ((Try.prog.info? 22).map (·.size) = some (cells idl).size) := by show _ = _; rw [hsz]; kernel_rfl
  have HRow : Hid ((w.alloc (.cells (cells idl) 22)).heap[w.heap.size]? = some (.cells (cells idl) 22 (0, 0))) := heap_alloc_new _ _
  have B0 := hide ((Below.refl w.heap.size w).alloc (Nat.le_refl _) (.cells (cells idl) 22))
  have HS := hide hs
  have H6 := hide (bytes6 (w.alloc (.cells (cells idl) 22)) (cells idl) nodes rank a n cap X (hs.later B0.out))
  clear hs hsz
  obtain ⟨p, hp⟩ : ∃ p, p = nodes * n := ⟨_, rfl⟩
  have e1 : (nodes : Int) * (n : Int) = (p : Int) := by rw [hp]; push_cast; rfl
  have HP := hide hp
  clear hp
  go_enter Try.func3, Try.ntmps3
  go_wp2_with (first
    | (show wpList _ _ _ (⟨_, .load 22 (.tmp 4), _, _, _, _⟩ :: _) _ _; refine wpList_load_row rfl 22 _ rfl w.heap.size rfl 22 (cells idl) _ _ HRow.out Try.underlying22 rfl HI.out ?_))
  refine H6.out.mono ?_
  rintro r w1 ⟨b, rfl, hbx, hb1⟩
  have B1 := hide (B0.out.trans (hb1.mono (by simp)))
  have R1 : Hid (w1.heap[w.heap.size]? = some (.cells (cells idl) 22 (0, 0))) := by
    show _ = _
    rw [hb1.block _ (by simp)]; exact HRow.out
  have HBX := hide hbx
  clear hb1 hbx HRow H6 B0
  cases b
  · go_wp2_with fail
    go_ret
    exact ⟨rfl, B1.out⟩
  · by_cases hc : n ≤ 4096
    · have hbx := HBX.out rfl
      have H7 := hide (count7 w1 a n cap X (HS.out.later B1.out) hc hbx)
      have HX := hide hbx
      clear HBX hbx
      have hpm : p ≤ 268435456 := by rw [HP.out]; exact Nat.mul_le_mul hn hc
      by_cases hp2 : p ≤ 65536
      · go_wp2_with (go_at_call 7; refine H7.out.mono ?_; rintro r w' ⟨v, rfl, hv, hw⟩; subst w')
        all_goals first
          | (go_ret; exact ⟨rfl, B1.out⟩)
          | skip
        refine (clone_any w1 a n cap X (HS.out.later B1.out) hc HX.out).mono ?_
        rintro r w2 ⟨b1, rfl, hcl1, hb2⟩
        have A2 := hide (Has.of hcl1)
        have B2 := hide (B1.out.trans (hb2.mono B1.out.size))
        have R2 : Hid (w2.heap[w.heap.size]? = some (.cells (cells idl) 22 (0, 0))) := by
          show _ = _
          rw [hb2.block _ (lt_of_some R1.out)]; exact R1.out
        clear hcl1 hb2 HS B1 R1 H7
        go_wp2_with fail
        refine (clone_any w2 b1 n n X (A2.out.src hc HX.out) hc HX.out).mono ?_
        rintro r w3 ⟨b2, rfl, hcl2, hb3⟩
        have A3 := hide (A2.out.later hb3)
        have C3 := hide (Has.of hcl2)
        have B3 := hide (B2.out.trans (hb3.mono B2.out.size))
        have R3 : Hid (w3.heap[w.heap.size]? = some (.cells (cells idl) 22 (0, 0))) := by
          show _ = _
          rw [hb3.block _ (lt_of_some R2.out)]; exact R2.out
        clear hcl2 hb3 A2 B2 R2
        go_wp2_with (first
          | (show wpList _ _ _ (⟨_, .load 22 (.tmp 4), _, _, _, _⟩ :: _) _ _; refine wpList_load_row rfl 22 _ rfl w.heap.size rfl 22 (cells idl) _ _ R3.out Try.underlying22 rfl HI.out ?_))
        have hV : ∀ j, j < n → ∃ g x m c, b2 = some ⟨g, 0, none⟩ ∧ w3.cell? ⟨g, 0 + j, none⟩ = some (valOf w3 b2 j) ∧ valOf w3 b2 j = .slice x m c ∧ Bs w3 (valOf w3 b2 j) (X j) := fun j hj => by
          obtain ⟨g, v, x, m, c, h1, h2, h3, h4⟩ := C3.out j hj
          have e : valOf w3 b2 j = v := by rw [h1]; unfold valOf; simp only [Option.bind_some]; rw [h2]; rfl
          exact ⟨g, x, m, c, h1, by rw [e]; exact h2, by rw [e]; exact h3, by rw [e]; exact h4⟩
        have HV := hide hV
        refine (writes9 hR w3 idl hid nodes n rank hn hc (by rw [← HP.out]; exact hp2) b2 n (valOf w3 b2) (fun j hj => by obtain ⟨g, x, m, c, h1, h2, _⟩ := hV j hj; exact ⟨g, 0, h1, h2⟩) (fun j hj => by obtain ⟨g, x, m, c, _, _, h3, _⟩ := hV j hj; exact ⟨x, m, c, h3⟩)).mono ?_
        clear hV C3
        rintro r w4 ⟨rfl, hN⟩
        have HN := hide hN
        have A4 := hide (A3.out.later hN.below)
        have B4 := hide (B3.out.trans (hN.below.mono B3.out.size))
        have R4 : Hid (w4.heap[w.heap.size]? = some (.cells (cells idl) 22 (0, 0))) := by
          show _ = _
          rw [hN.below.block _ (lt_of_some R3.out)]; exact R3.out
        have V4 : Hid (∀ j, j < n → Bs w4 (valOf w3 b2 j) (X j)) := fun j hj => by
          obtain ⟨g, x, m, c, _, _, _, h4⟩ := HV.out j hj
          exact h4.later hN.below
        clear hN HV A3 B3 R3
        generalize valOf w3 b2 = V at *
        generalize w3.heap.size = s3 at *
        go_wp2_with fail
        go_loopw [11] (fun i wr => ∃ k : Nat, k ≤ n ∧ i = .int .i64 k ∧ Hid (Below w4.heap.size w4 wr)) (fun i _ => n - (intOf i).toNat)
        case atStart => exact ⟨0, Nat.zero_le _, rfl, Below.refl _ _⟩
        case round =>
          obtain ⟨k, hk, rfl, BW⟩ := hrel
          by_cases hlt : k < n
          · obtain ⟨g, v, x, m, c, rfl, hcell, rfl, hbs⟩ := A4.out k hlt
            have BWd : Hid (Below w4.heap.size w4 wr.drew) := BW.out.drew
            have cv : wr.cell? ⟨g, 0 + k, none⟩ = some (.slice x m c) := by rw [BW.out.cell (block_lt_of_cell hcell)]; exact hcell
            rw [Nat.zero_add] at cv
            have hO := HN.out.ops k hlt
            simp only [hlt, decide_true, if_true] at hO
            obtain ⟨f1, f2, f3⟩ := heard_flags HN.out k hlt
            have HF := hide (fresh10 wr.drew (s3 + 1 + 1) (k * 42) idl hid nodes rank (V k) _ _ _ (.slice x m c) (X k) (hO.later BWd.out) ((V4.out k hlt).later BWd.out) (hbs.later BWd.out) (HX.out k hlt) (f1.later BWd.out) (f3.later BWd.out) (f2.later BWd.out) hn)
            have RW : Hid (wr.heap[w.heap.size]? = some (.cells (cells idl) 22 (0, 0))) := by
              show _ = _
              rw [BW.out.block _ (lt_of_some R4.out)]; exact R4.out
            have K1 : Hid (wr.drew.rangeAt w.heap.size 0 (idl.map (Value.int .u8)) ∧ wr.drew.cell? ⟨g, k, none⟩ = some (.slice x m c)) := by
              refine ⟨fun j y hy => ?_, cv⟩
              rw [Nat.zero_add, cell_of_row wr.drew _ _ _ _ _ RW.out]; simpa [cells] using hy
            have K2 : Hid (∀ w', Below wr.heap.size wr.drew w' → w'.rangeAt w.heap.size 0 (idl.map (Value.int .u8)) ∧ w'.cell? ⟨g, k, none⟩ = some (.slice x m c)) := fun w' hb =>
              ⟨range_later K1.out.1 hb, by rw [hb.cell (p := ⟨g, k, none⟩) (block_lt_of_cell cv)]; exact cv⟩
            have i0 : (0 : Int) ≤ (k : Int) := by omega
            have i1 : (k : Int) < (n : Int) := by omega
            have hu := Try.underlying22
            have hi : (Try.prog.info? 22).map (·.size) = some (idl.map (Value.int .u8)).length := by rw [List.length_map, hid]; kernel_rfl
            have hcl : (cells idl) = (idl.map (Value.int .u8)).toArray := rfl
            rw [hcl] at HF
            clear hcl hO f1 f2 f3 hbs hcell A4 V4 R4 HX HN BWd
            go_wp2_with fail
            go_region_held3 (fun w' => w'.rangeAt w.heap.size 0 (idl.map (Value.int .u8)) ∧ w'.cell? ⟨g, k, none⟩ = some (.slice x m c)) (first | exact K1.out | exact K2.out _ hb5.out) ((go_at_call 10; refine HF.out.mono ?_; rintro r w5 ⟨rfl, hb5'⟩; have hb5 := hide hb5'; clear hb5'))
            go_wp2
            go_roundw
            case rel => exact ⟨k + 1, by omega, by go_num, BW.out.drew.trans (hb5.out.mono BW.out.size)⟩
            case measure => simp [intOf]; omega
          · go_wp2_with fail
            go_ret
            exact ⟨rfl, B4.out.trans (BW.out.mono B4.out.size)⟩
      · have hp3 : (65536 : Int) < (p : Int) := by omega
        go_wp2_with (go_at_call 7; refine H7.out.mono ?_; rintro r w' ⟨v, rfl, hv, hw⟩; subst w')
        all_goals
          go_ret
          exact ⟨rfl, B1.out⟩
    · go_wp2_with fail
      go_ret
      exact ⟨rfl, B1.out⟩

set_option maxRecDepth 100000 in
set_option maxHeartbeats 2000000 in
theorem early3 (w : World) (idl : List Int) (hid : idl.length = 16) (nodes : Int) (rank : Int) (a : Option Addr) (n cap : Nat) (X : Nat → Option (List Int)) (hs : Src w a n cap X) (hn : nodes < 0 ∨ 65536 < nodes) :
    Calls Try.prog 3 #[.agg (cells idl), .int .i64 nodes, .int .u32 rank, .slice a n cap] w fun r w' => r = .returned (.bool true) ∧ Below w.heap.size w w' := by
  have hln := hs.1
  unfold maxLen at hln
  have hsz : (cells idl).size = 16 := by simp [cells, hid]
  have HI : Hid ((Try.prog.info? 22).map (·.size) = some (cells idl).size) := by show _ = _; rw [hsz]; kernel_rfl
  have HRow : Hid ((w.alloc (.cells (cells idl) 22)).heap[w.heap.size]? = some (.cells (cells idl) 22 (0, 0))) := heap_alloc_new _ _
  have B0 := hide ((Below.refl w.heap.size w).alloc (Nat.le_refl _) (.cells (cells idl) 22))
  have HS := hide hs
  have H6 := hide (bytes6 (w.alloc (.cells (cells idl) 22)) (cells idl) nodes rank a n cap X (hs.later B0.out))
  clear hs hsz
  go_enter Try.func3, Try.ntmps3
  go_wp2_with (first
    | (show wpList _ _ _ (⟨_, .load 22 (.tmp 4), _, _, _, _⟩ :: _) _ _; refine wpList_load_row rfl 22 _ rfl w.heap.size rfl 22 (cells idl) _ _ HRow.out Try.underlying22 rfl HI.out ?_))
  refine H6.out.mono ?_
  rintro r w1 ⟨b, rfl, hbx, hb1⟩
  have B1 := hide (B0.out.trans (hb1.mono (by simp)))
  have HBX := hide hbx
  clear hb1 hbx HRow H6 B0
  cases b
  · go_wp2_with fail
    go_ret
    exact ⟨rfl, B1.out⟩
  · by_cases hc : n ≤ 4096
    · have H7 := hide (count7 w1 a n cap X (HS.out.later B1.out) hc (HBX.out rfl))
      clear HBX
      rcases hn with hn | hn
      all_goals
        go_wp2_with (go_at_call 7; refine H7.out.mono ?_; rintro r w' ⟨v, rfl, hv, hw⟩; subst w')
        all_goals
          go_ret
          exact ⟨rfl, B1.out⟩
    · go_wp2_with fail
      go_ret
      exact ⟨rfl, B1.out⟩

theorem all3 (hR : Reads20) (w : World) (idl : List Int) (hid : idl.length = 16) (nodes : Int) (rank : Int) (a : Option Addr) (n cap : Nat) (X : Nat → Option (List Int)) (hs : Src w a n cap X) :
    Calls Try.prog 3 #[.agg (cells idl), .int .i64 nodes, .int .u32 rank, .slice a n cap] w fun r w' => r = .returned (.bool true) ∧ Below w.heap.size w w' := by
  by_cases h : 0 ≤ nodes ∧ nodes ≤ 65536
  · obtain ⟨m, rfl⟩ := Int.eq_ofNat_of_zero_le h.1
    exact main3 hR w idl hid m rank a n cap X hs (by omega)
  · exact early3 w idl hid nodes rank a n cap X hs (by omega)
end Go.Proofs.Qxb6604549a.Parts
