import Derived.Test.Qxb6604549aParts
namespace Go.Proofs.Qxb6604549a.Parts
open Go.RowKit

/-- The bytes as cells. -/
def cells (l : List Int) : Array Value := (l.map (Value.int .u8)).toArray
theorem cells_at (l : List Int) (j : Nat) (h : j < l.length) : (cells l)[j]? = some (.int .u8 (l.getD j 0)) := by
  simp [cells, h]
theorem info5 : (Try.prog.info? 5).map (fun i => (i.zero, i.size, i.bytes)) = some (some (.int .u8 0), 1, 1) := by kernel_rfl
theorem info33 : (Try.prog.info? 33).map (fun i => (i.zero, i.size, i.bytes)) = some (some (.slice none 0 0), 1, 24) := by kernel_rfl
theorem made1 (z : Value) (n : Nat) : madeCells #[z] n = (List.replicate n z).toArray := by
  apply Array.ext
  · simp [madeCells]
  · intro i h1 h2
    simp [madeCells, Nat.mod_one]
theorem heap_cell_alloc (w : World) (o : Obj) (a : Addr) (h : a.block < w.heap.size) : (w.alloc o).cell? a = w.cell? a :=
  World.cell?_of_block (heap_alloc_old _ _ h)

theorem copy_arm {w : World} {x : Addr} {len cap : Nat} {l : List Int} (hl : l.length = len) (HC : Hid (∀ j, j < len → w.cell? (x.add j) = some (.int .u8 (l.getD j 0)))) {zs : List Value}
    (HZ : Hid (zs = List.replicate len (Value.int .u8 0)))
    {ops : Array Oper} {rest : List Oper} {o : Oper} {a : Act} {Q : Exit → Act → World → Prop} (hgd : o.guard = none) (d s : Operand)
    (ho : o.op = .call { callee := .builtin .copy, args := #[d, s], argTypes := #[33, 33] })
    (hd : a.eval d = .slice (some ⟨w.heap.size, 0, none⟩) len len) (hs : a.eval s = .slice (some x) len cap)
    (h : ∀ w', Hid (w'.heap[w.heap.size]? = some (.cells (cells l) 5 (0, 0))) → Hid (Below w.heap.size w w') → Hid (w.heap.size < w'.heap.size) → wpList Try.prog ops Q rest (a.put o.dst (goInt len)) w') :
    wpList Try.prog ops Q (o :: rest) a (w.alloc (.cells zs.toArray 5)) := by
  have hz := HZ.out
  subst hz
  obtain ⟨cs, hcs⟩ : ∃ cs, cs = l.map (Value.int .u8) := ⟨_, rfl⟩
  have hcl : cs.length = len := by rw [hcs]; simp [hl]
  refine wpList_copy_splice hgd d s 33 33 ho 5 Try.underlying33 (by kernel_rfl) _ _ _ _ _ _ hd hs w.heap.size 0 (List.replicate len (Value.int .u8 0)) 5 (heap_alloc_new _ _) cs (by rw [hcl]; exact (Nat.min_self _).symm) ?_ ?_ ?_ w.heap.size (w.alloc (.cells (List.replicate len (Value.int .u8 0)).toArray 5)) (Below.refl _ _) (Nat.le_refl _) ?_
  · intro hpos
    refine ⟨rfl, x, rfl, ?_⟩
    intro j v hv
    have hj : j < len := by
      have := (List.getElem?_eq_some_iff.1 hv).1
      omega
    have := HC.out j hj
    have hx : ((x.add j).block) < w.heap.size := block_lt_of_cell this
    rw [heap_cell_alloc _ _ _ hx, this]
    rw [hcs] at hv
    have hj' : j < l.length := by omega
    simpa [List.getElem?_eq_getElem hj'] using hv
  · simp [hcl]
  · intro v hv
    rw [hcs] at hv
    exact ints_oneCell .u8 l v hv
  · intro w' hw' hb'
    rw [hcl]
    refine h w' ?_ ?_ ?_
    · have e : splice (List.replicate len (Value.int .u8 0)) 0 cs = l.map (Value.int .u8) := by
        rw [hcs]; simp [splice, hl]
      have := hw'.out
      rw [e] at this
      exact this
    · exact ((Below.refl _ _).alloc (Nat.le_refl _) _).trans hb'
    · have := hb'.size
      simp at this
      exact this

/-- A value of the call's own: nil, or a row of its own above block B. -/
def OwnV (B : Nat) (w : World) (v : Value) : Option (List Int) → Prop
  | none => v = .slice none 0 0
  | some l => ∃ g, B < g ∧ v = .slice (some ⟨g, 0, none⟩) l.length l.length ∧ w.heap[g]? = some (.cells (cells l) 5 (0, 0))
theorem OwnV.bs {B : Nat} {w : World} {v : Value} {x : Option (List Int)} (h : OwnV B w v x) : Bs w v x := by
  cases x with
  | none => exact h
  | some l =>
    obtain ⟨g, _, rfl, hg⟩ := h
    refine ⟨_, _, rfl, fun j hj => ?_⟩
    rw [show (⟨g, 0, none⟩ : Addr).add j = ⟨g, j, none⟩ by unfold Addr.add; split <;> simp_all, cell_of_row _ _ _ _ _ _ hg]
    exact cells_at l j hj
theorem OwnV.keep {B : Nat} {w w' : World} {v : Value} {x : Option (List Int)} (h : OwnV B w v x) (hk : ∀ g o, B < g → w.heap[g]? = some o → w'.heap[g]? = some o) : OwnV B w' v x := by
  cases x with
  | none => exact h
  | some l =>
    obtain ⟨g, h1, h2, hg⟩ := h
    exact ⟨g, h1, h2, hk g _ h1 hg⟩
/-- The clone after k rounds: its row is block 'go'. -/
def Cl (w wr : World) (go n k : Nat) (X : Nat → Option (List Int)) : Prop :=
  ∃ cur : Array Value, cur.size = n ∧ wr.heap[go]? = some (.cells cur 33 (0, 0)) ∧ (∀ j, j < k → ∃ v, cur[j]? = some v ∧ OwnV go wr v (X j)) ∧ (∀ j, k ≤ j → j < n → cur[j]? = some (.slice none 0 0)) ∧ Below go w wr
theorem Cl.skip {w wr : World} {go n k : Nat} {X : Nat → Option (List Int)} (h : Cl w wr go n k X) (hk : k < n) (hx : X k = none) : Cl w wr go n (k + 1) X := by
  obtain ⟨cur, h1, h2, h3, h4, h5⟩ := h
  refine ⟨cur, h1, h2, fun j hj => ?_, fun j hj hj2 => h4 j (by omega) hj2, h5⟩
  by_cases e : j = k
  · subst e
    exact ⟨_, h4 j (Nat.le_refl _) hk, by rw [hx]; rfl⟩
  · exact h3 j (by omega)
theorem Cl.step {w wr w2 : World} {go n k : Nat} {X : Nat → Option (List Int)} {l : List Int} (h : Cl w wr go n k X) (hk : k < n) (hx : X k = some l) (hg : w2.heap[wr.heap.size]? = some (.cells (cells l) 5 (0, 0))) (hb : Below wr.heap.size wr w2) :
    Cl w (w2.setCell ⟨go, k, none⟩ (.slice (some ⟨wr.heap.size, 0, none⟩) l.length l.length)) go n (k + 1) X := by
  obtain ⟨cur, h1, h2, h3, h4, h5⟩ := h
  have hgo := lt_of_some h2
  have h2' : w2.heap[go]? = some (.cells cur 33 (0, 0)) := by rw [hb.block go hgo]; exact h2
  refine ⟨cur.setIfInBounds k (.slice (some ⟨wr.heap.size, 0, none⟩) l.length l.length), by simpa using h1, heap_setCell_same _ _ _ _ _ _ h2', fun j hj => ?_, fun j hj hj2 => ?_, ?_⟩
  · by_cases e : j = k
    · subst e
      refine ⟨.slice (some ⟨wr.heap.size, 0, none⟩) l.length l.length, by simp [h1, hk], ?_⟩
      rw [hx]
      exact ⟨wr.heap.size, hgo, rfl, by rw [heap_setCell_other _ _ _ _ (show wr.heap.size ≠ go by omega)]; exact hg⟩
    · obtain ⟨v, hv1, hv2⟩ := h3 j (by omega)
      refine ⟨v, by rw [Array.getElem?_setIfInBounds]; simp [show ¬ k = j by omega, hv1], hv2.keep (fun g o hg1 hg2 => ?_)⟩
      rw [heap_setCell_other _ _ _ _ (show g ≠ go by omega), hb.block g (lt_of_some hg2)]
      exact hg2
  · rw [Array.getElem?_setIfInBounds]
    simp [show ¬ k = j by omega, h4 j (by omega) hj2]
  · exact (h5.trans (hb.mono (by omega))).setCell (Nat.le_refl _) _
def CloneOut (w : World) (n : Nat) (X : Nat → Option (List Int)) (r : Ending) (w' : World) : Prop :=
  ∃ b, r = .returned (.slice b n n) ∧ (0 < n → b = some ⟨w.heap.size, 0, none⟩ ∧ Cl w w' w.heap.size n n X) ∧ Below w.heap.size w w'

set_option maxRecDepth 100000 in
set_option maxHeartbeats 2000000 in
theorem clone_any (w : World) (a : Option Addr) (n cap : Nat) (X : Nat → Option (List Int)) (hs : Src w a n cap X) (hn : n ≤ 4096) (hx : ∀ j, j < n → blen (X j) ≤ 1048576) :
    Calls Try.prog 8 #[.slice a n cap] w (CloneOut w n X) := by
  have heq := fun w a n c => Lib.run_eql_slice_nil (P := Try.prog) w 24 33 a n c 0 0 Try.underlying24
  have hne := fun w a n c => run_neq_slice_nil_any (P := Try.prog) w 33 5 a n c 0 0 Try.underlying33
  have HS := hide hs
  have HX := hide hx
  obtain ⟨_, ⟨rfl, rfl, rfl⟩ | ⟨x, rfl, _⟩⟩ := hs
  · clear hx
    go_enter Try.func8, Try.ntmps8
    go_wp2
    go_ret
    exact ⟨none, rfl, (fun h => absurd h (by omega)), Below.refl _ _⟩
  · clear hx
    obtain ⟨i, hi, hz0, hz1, hz2⟩ := info_parts info33
    have hmk : ∀ w, (Instr.makeSlice 24 (.int .i64 n) (.int .i64 n)).run Try.prog w = .ok (.slice (some ⟨w.heap.size, 0, none⟩) n n) (w.alloc (.cells (List.replicate n (Value.slice none 0 0)).toArray 33)) := by
      intro w
      have := run_make (P := Try.prog) w 24 33 i (.slice none 0 0) Try.underlying24 hi hz0 .i64 .i64 n n (by omega) (by omega) (by rw [hz2]; omega) (by omega)
      rw [hz1] at this
      simpa [Value.cells, made1] using this
    have h0 : Cl w (w.alloc (.cells (List.replicate n (Value.slice none 0 0)).toArray 33)) w.heap.size n 0 X :=
      ⟨_, by simp, heap_alloc_new _ _, fun j hj => absurd hj (by omega), fun j _ hj => by simp [hj], (Below.refl _ _).alloc (Nat.le_refl _) _⟩
    have H0 := hide h0
    clear h0 hi hz0 hz1 hz2
    generalize hzs : List.replicate n (Value.slice none 0 0) = zs at *
    clear hzs
    go_enter Try.func8, Try.ntmps8
    go_wp2
    go_loopw [4] (fun i wr => ∃ k : Nat, k ≤ n ∧ i = .int .i64 k ∧ Hid (Cl w wr w.heap.size n k X)) (fun i _ => n - (intOf i).toNat)
    case atStart => exact ⟨0, Nat.zero_le _, rfl, H0⟩
    case round =>
      clear hmk H0
      obtain ⟨k, hk, rfl, HO⟩ := hrel
      by_cases hlt : k < n
      · obtain ⟨b, off, v, hxx, hc, hv, hsz⟩ := HS.out.at k hlt
        obtain rfl := Option.some.inj hxx
        obtain ⟨cur, h1, h2, h3, h4, h5⟩ := HO.out
        have hc' : wr.cell? ⟨b, off + k, none⟩ = some v := by rw [h5.cell (block_lt_of_cell hc)]; exact hc
        have cg : wr.cell? ⟨w.heap.size, k, none⟩ = some (.slice none 0 0) := by rw [cell_of_row _ _ _ _ _ _ h2]; exact h4 k (Nat.le_refl _) hlt
        have fg : ∀ j, wr.frozen? ⟨w.heap.size, j, none⟩ = false := fun j => frozen_of_row _ _ _ _ _ h2
        have hgo := lt_of_some h2
        have hbl := block_lt_of_cell hc'
        have i0 : (0 : Int) ≤ (k : Int) := by omega
        have i1 : (k : Int) < (n : Int) := by omega
        cases hxk : X k with
        | none =>
          rw [hxk] at hv
          obtain rfl : v = .slice none 0 0 := hv
          have HK := hide hxk
          clear hxx hc h1 h2 h3 h4 h5 HX hxk
          go_wp2
          go_roundw
          case rel => exact ⟨k + 1, by omega, by go_num, HO.out.skip hlt HK.out⟩
          case measure => simp [intOf]; omega
        | some l =>
          rw [hxk] at hv
          obtain ⟨ad, cap2, rfl, hcells⟩ := hv
          have hlb := HX.out k hlt
          rw [hxk] at hlb
          have HK := hide hxk
          have HC : Hid (∀ j, j < l.length → wr.cell? (ad.add j) = some (.int .u8 (l.getD j 0))) := fun j hj => by
            rw [h5.cell (block_lt_of_cell (hcells j hj))]; exact hcells j hj
          have HLL : Hid (blen (some l) = l.length) := rfl
          rw [HLL.out] at hlb
          obtain ⟨i, hi, hz0, hz1, hz2⟩ := info_parts info5
          have hmk : (Instr.makeSlice 33 (.int .i64 l.length) (.int .i64 l.length)).run Try.prog wr = .ok (.slice (some ⟨wr.heap.size, 0, none⟩) l.length l.length) (wr.alloc (.cells (List.replicate l.length (Value.int .u8 0)).toArray 5)) := by
            have := run_make (P := Try.prog) wr 33 5 i (.int .u8 0) Try.underlying33 hi hz0 .i64 .i64 l.length l.length (by omega) (by omega) (by rw [hz2]; omega) (by omega)
            rw [hz1] at this
            simpa [Value.cells, made1] using this
          generalize hzz : List.replicate l.length (Value.int .u8 0) = zz at *
          have HZ : Hid (zz = List.replicate l.length (Value.int .u8 0)) := hzz.symm
          have hlen : Hid (l.length = l.length) := rfl
          clear hxx hc h1 h2 h3 h4 h5 HX hxk hcells hzz hi hz0 hz1 hz2
          go_wp2_with (show wpList _ _ _ (⟨_, .call { callee := .builtin .copy, args := _, argTypes := _ }, _, _, _, _⟩ :: _) _ _; refine copy_arm rfl HC HZ rfl _ _ rfl rfl rfl ?_; intro w2 hg2 hb2 hs2; have c2 : w2.cell? ⟨w.heap.size, k, none⟩ = some (.slice none 0 0) := (by rw [hb2.out.cell (show w.heap.size < wr.heap.size from hgo)]; exact cg); have f2 : ∀ j, w2.frozen? ⟨w.heap.size, j, none⟩ = false := (fun j => by rw [hb2.out.frozen (show w.heap.size < wr.heap.size from hgo)]; exact fg j))
          go_roundw
          case rel => exact ⟨k + 1, by omega, by go_num, HO.out.step hlt HK.out hg2.out hb2.out⟩
          case measure => simp [intOf]; omega
      · obtain rfl : k = n := by omega
        go_wp2
        go_ret
        refine ⟨_, rfl, (fun h => ⟨rfl, HO.out⟩), ?_⟩
        obtain ⟨_, _, _, _, _, h5⟩ := HO.out
        exact h5
end Go.Proofs.Qxb6604549a.Parts
