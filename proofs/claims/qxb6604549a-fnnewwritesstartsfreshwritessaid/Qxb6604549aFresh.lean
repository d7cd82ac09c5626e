import Derived.Test.Qxb6604549aHead
import Derived.Deep.WholeRow
import Derived.Deep.Cut
namespace Go.Proofs.Qxb6604549a.Parts
open Go.RowKit

theorem run_equalIn_self (w : World) (d : Nat) (l : List Int) (hl : l.length = 16) : (Op.equalIn (d + 2) 30 (.agg (cells l)) (.agg (cells l))).run Try.prog w = .ok true w := by
  have he := Try.underlying5
  have hsz : ∀ w, (sizeOf 5).run Try.prog w = .ok 1 w := fun w => by
    obtain ⟨i, hi, _, hz1, _⟩ := info_parts info5
    simp [sizeOf, typeInfo, hi, hz1]
  rw [Op.equalIn]
  simp only [Sem.run_bind, run_underlying Try.underlying30, Result.andThen_ok, hsz, Std.Legacy.Range.forIn_eq_forIn_range', Std.Legacy.Range.size, Nat.sub_zero, Nat.add_sub_cancel, Nat.div_one]
  have hm : ∀ i ∈ List.range' 0 16 1, i < 16 := fun i hi => by simpa using (List.mem_range'_1.1 hi).2
  generalize List.range' 0 16 1 = r at hm ⊢
  induction r with
  | nil => simp
  | cons i r ih =>
    have hi : i < 16 := hm i (by simp)
    have px : (part 5 (cells l) (i * 1)).run Try.prog w = .ok (.int .u8 (l.getD i 0)) w := by
      simp [part, isAgg, run_underlying he, cells, List.getD, List.getElem?_eq_getElem (show i < l.length by omega)]
    have pe : (Op.equalIn (d + 1) 5 (.int .u8 (l.getD i 0)) (.int .u8 (l.getD i 0))).run Try.prog w = .ok true w := by
      rw [run_equalIn_int w d 5 .u8 .u8 _ _ he]
      simp
    simp only [List.forIn_cons, Sem.run_bind, px, pe, Result.andThen_ok]
    have := ih (fun j hj => hm j (by simp [hj]))
    simpa using this

/-- Marks that are all unset, and pairs that are all zero. -/
def Flags (w : World) (v : Value) (n : Nat) : Prop := ∃ a c, v = .slice a n c ∧ ∀ j, j < n → ∃ b o, a = some ⟨b, o, none⟩ ∧ w.cell? ⟨b, o + j, none⟩ = some (.bool false)
def Pairs (w : World) (v : Value) (n : Nat) : Prop := ∃ a c, v = .slice a n c ∧ ∀ j, j < n → ∃ b o, a = some ⟨b, o, none⟩ ∧ w.rangeAt b (o + j * 5) zp
theorem bcell {W w1 : World} (hb : Below W.heap.size W w1) : (∀ b o, b < W.heap.size → w1.cell? ⟨b, o, none⟩ = W.cell? ⟨b, o, none⟩) ∧ (∀ b o, b < W.heap.size → w1.frozen? ⟨b, o, none⟩ = W.frozen? ⟨b, o, none⟩) :=
  ⟨fun b o h => hb.cell (p := ⟨b, o, none⟩) h, fun b o h => hb.frozen (p := ⟨b, o, none⟩) h⟩
theorem Flags.at {w : World} {a : Option Addr} {c n : Nat} (h : Flags w (.slice a n c) n) (k : Nat) (hk : k < n) : ∃ b o, a = some ⟨b, o, none⟩ ∧ w.cell? ⟨b, o + k, none⟩ = some (.bool false) := by
  obtain ⟨a', c', e, h⟩ := h
  cases e
  exact h k hk
theorem Pairs.at {w : World} {a : Option Addr} {c n : Nat} (h : Pairs w (.slice a n c) n) (k : Nat) (hk : k < n) : ∃ b o, a = some ⟨b, o, none⟩ ∧ w.rangeAt b (o + k * 5) zp := by
  obtain ⟨a', c', e, h⟩ := h
  cases e
  exact h k hk
theorem Flags.later {w w' : World} {v : Value} {n : Nat} (h : Flags w v n) (hb : Below w.heap.size w w') : Flags w' v n := by
  obtain ⟨a, c, rfl, h⟩ := h
  refine ⟨a, c, rfl, fun j hj => ?_⟩
  obtain ⟨b, o, h1, h2⟩ := h j hj
  exact ⟨b, o, h1, by rw [hb.cell (block_lt_of_cell h2)]; exact h2⟩
theorem range_later {w w' : World} {b o : Nat} {cs : List Value} (h : w.rangeAt b o cs) (hb : Below w.heap.size w w') : w'.rangeAt b o cs := fun j v hv => by
  have := h j v hv
  rw [hb.cell (block_lt_of_cell this)]; exact this
theorem Pairs.later {w w' : World} {v : Value} {n : Nat} (h : Pairs w v n) (hb : Below w.heap.size w w') : Pairs w' v n := by
  obtain ⟨a, c, rfl, h⟩ := h
  refine ⟨a, c, rfl, fun j hj => ?_⟩
  obtain ⟨b, o, h1, h2⟩ := h j hj
  exact ⟨b, o, h1, range_later h2 hb⟩
theorem OpAt.later {w w' : World} {b o : Nat} {ids : List Value} {rank : Int} {wr : Bool} {val heard answered held : Value} (h : OpAt w b o ids rank wr val heard answered held) (hb : Below w.heap.size w w') : OpAt w' b o ids rank wr val heard answered held :=
  ⟨range_later h.id hb, h.len, range_later h.tail hb⟩
theorem Bs.later {w w' : World} {v : Value} {x : Option (List Int)} (h : Bs w v x) (hb : Below w.heap.size w w') : Bs w' v x := by
  cases x with
  | none => exact h
  | some l =>
    obtain ⟨a, c, rfl, h⟩ := h
    exact ⟨a, c, rfl, fun j hj => by have := h j hj; rw [hb.cell (block_lt_of_cell this)]; exact this⟩
theorem below_drewN {B : Nat} {a w : World} (h : Below B a w) (n : Nat) : Below B a (w.drewN n) := ⟨h.os, h.tape, h.output, h.size, h.block⟩

section
variable {P : Program} {ops : Array Oper} {rest : List Oper} {o : Oper} {a : Act} {w : World} {Q : Exit → Act → World → Prop}
/-- A whole row laid into the block that was made last. -/
theorem wpList_store_new (hgd : o.guard = none) (ty : TypeId) (x y : Operand) (ho : o.op = .store ty x y)
    (g : Nat) (hgs : w.heap.size = g) (cells : Array Value) (hx : a.eval x = .pointer (some ⟨g, 0, none⟩)) (hy : a.eval y = .agg cells)
    (t : TypeId) (old : Array Value) (hi : (P.info? ty).map (·.size) = some cells.size)
    (hold : old.size = cells.size) (h1 : cells.all (·.oneCell') = true)
    (h : wpList P ops Q rest (a.put o.dst undef) (w.alloc (.cells cells t))) : wpList P ops Q (o :: rest) a (w.alloc (.cells old t)) := by
  subst hgs
  exact wpList_store_row hgd ty x y ho w.heap.size cells hx hy t old (heap_alloc_last w _) hi hold h1 (by rw [World.setRow_alloc_new]; exact h)
end

set_option maxRecDepth 100000 in
set_option maxHeartbeats 4000000 in
theorem fresh10 (w : World) (b o : Nat) (idl : List Int) (hid : idl.length = 16) (nodes : Nat) (rank : Int) (val heard answered held want : Value) (x : Option (List Int))
    (hO : OpAt w b o (idl.map (Value.int .u8)) rank true val heard answered held) (hv : Bs w val x) (hw : Bs w want x) (hx : blen x ≤ 1048576) (hf : Flags w heard nodes) (hp : Pairs w answered nodes) (hh : Flags w held nodes) (hn : nodes ≤ 65536) :
    Calls Try.prog 10 #[.pointer (some ⟨b, o, none⟩), .agg (cells idl), .int .i64 nodes, .int .u32 rank, want] w fun r w' => r = .returned (.bool true) ∧ Below w.heap.size w w' := by
  have B1 := hide ((Below.refl w.heap.size w).alloc (Nat.le_refl _) (.cells (cells idl) 30))
  have hoc : ∀ v ∈ idl.map (Value.int .u8), v.oneCell' = true := ints_oneCell .u8 idl
  have hsz : (cells idl).size = 16 := by simp [cells, hid]
  have hi30 : (Try.prog.info? 30).map (·.size) = some (cells idl).size := by rw [hsz]; kernel_rfl
  have hall : (cells idl).all (·.oneCell') = true := all_oneCell_toArray hoc
  have HSZ := hide hsz
  have HI := hide hi30
  have HA := hide hall
  have HO := hide hO
  have HV := hide hv
  have HW := hide hw
  have HF := hide hf
  have HP := hide hp
  have HH := hide hh
  have H21 := hide (head21 _ b o _ rank true val heard answered held (hO.later B1.out) hoc)
  clear hO hv hw hf hp hh hsz hi30 hall hoc
  go_enter Try.func10, Try.ntmps10
  go_wp2_with fail
  refine H21.out.mono ?_
  rintro r w1 ⟨rfl, hb1⟩
  have B2 := hide hb1
  have R1 : Hid (w1.heap[w.heap.size]? = some (.cells (cells idl) 30 (0, 0))) := by
    show _ = _
    rw [hb1.block _ (by simp)]; exact heap_alloc_new _ _
  clear hb1 H21
  go_upto_region 2 with (show wpList _ _ _ (⟨_, .store 30 (.tmp 11) (.tmp 35), _, _, _, _⟩ :: _) _ _; refine wpList_store_new rfl 30 _ _ rfl w1.heap.size rfl (cells idl) rfl rfl 30 _ HI.out (by rw [HSZ.out]; rfl) HA.out ?_)
  have BX : Hid (Below w.heap.size w (w1.alloc (.cells (cells idl) 30))) := (B1.out.trans (B2.out.mono (by simp))).alloc (by have := B2.out.size; simp at this; omega) _
  have R2 : Hid ((w1.alloc (.cells (cells idl) 30)).heap[w1.heap.size]? = some (.cells (cells idl) 30 (0, 0))) := heap_alloc_new _ _
  have R1' : Hid ((w1.alloc (.cells (cells idl) 30)).heap[w.heap.size]? = some (.cells (cells idl) 30 (0, 0))) := by
    show _ = _
    rw [heap_alloc_old _ _ (lt_of_some R1.out)]; exact R1.out
  clear R1 B1 B2
  generalize w1.alloc (.cells (cells idl) 30) = x2 at *
  generalize w1.heap.size = g1 at *
  have hself : ∀ w, (Op.equalIn 10000 30 (.agg (cells idl)) (.agg (cells idl))).run Try.prog w = .ok true w := fun w => run_equalIn_self w 9998 idl hid
  go_wp2_with (first
    | (show wpList _ _ _ (⟨_, .load 30 (.tmp 11), _, _, _, _⟩ :: _) _ _; refine wpList_load_row rfl 30 _ rfl g1 rfl 30 (cells idl) _ _ R2.out Try.underlying30 rfl HI.out ?_)
    | (show wpList _ _ _ (⟨_, .load 30 (.tmp 6), _, _, _, _⟩ :: _) _ _; refine wpList_load_row rfl 30 _ rfl w.heap.size rfl 30 (cells idl) _ _ R1'.out Try.underlying30 rfl HI.out ?_))
  refine (same22 x2 val want x (HV.out.later BX.out) (HW.out.later BX.out) hx).mono ?_
  rintro r w2 ⟨rfl, q2, hw2⟩
  have B2 : Hid (Below w.heap.size w w2) := by rw [hw2]; exact below_drewN BX.out _
  clear hw2 R2 R1' BX HI HA HSZ hself
  go_wp2_with fail
  refine (marks23 w2 b o _ rank true val heard answered held (HO.out.later B2.out)).mono ?_
  rintro r w3 ⟨rfl, q3, hw3⟩
  have B3 : Hid (Below w.heap.size w w3) := by rw [hw3]; exact below_drewN B2.out _
  clear hw3 B2
  obtain ⟨ha, hc, rfl, hf⟩ := HF.out
  obtain ⟨pa, pc, rfl, hp⟩ := HP.out
  obtain ⟨da, dc, rfl, hd⟩ := HH.out
  clear hf hp hd
  go_wp2_with fail
  have HZ : Hid (∀ w, Calls Try.prog 24 #[.agg #[.int .u64 0, .int .u32 0, .slice none 0 0, .bool false, .int .u32 0]] w fun r w' => r = .returned (.bool true) ∧ Below w.heap.size w w') := zero24
  go_loopw [26] (fun i wr => ∃ k : Nat, k ≤ nodes ∧ i = .int .i64 k ∧ Hid (Below w.heap.size w wr)) (fun i _ => nodes - (intOf i).toNat)
  case atStart => exact ⟨0, Nat.zero_le _, rfl, B3⟩
  case round =>
    clear B3
    obtain ⟨k, hk, rfl, BW⟩ := hrel
    by_cases hlt : k < nodes
    · obtain ⟨b1, o1, rfl, f1⟩ := HF.out.at k hlt
      obtain ⟨b2, o2, rfl, f2⟩ := HP.out.at k hlt
      obtain ⟨b3, o3, rfl, f3⟩ := HH.out.at k hlt
      have f1' : wr.cell? ⟨b1, o1 + k, none⟩ = some (.bool false) := by rw [BW.out.cell (block_lt_of_cell f1)]; exact f1
      have f3' : wr.cell? ⟨b3, o3 + k, none⟩ = some (.bool false) := by rw [BW.out.cell (block_lt_of_cell f3)]; exact f3
      have g := range_later f2 BW.out
      have p0 : wr.cell? ⟨b2, o2 + k * 5, none⟩ = some (.int .u64 0) := g 0 _ rfl
      have p1 : wr.cell? ⟨b2, o2 + k * 5 + 1, none⟩ = some (.int .u32 0) := g 1 _ rfl
      have p2 : wr.cell? ⟨b2, o2 + k * 5 + 2, none⟩ = some (.slice none 0 0) := g 2 _ rfl
      have p3 : wr.cell? ⟨b2, o2 + k * 5 + 3, none⟩ = some (.bool false) := g 3 _ rfl
      have p4 : wr.cell? ⟨b2, o2 + k * 5 + 4, none⟩ = some (.int .u32 0) := g 4 _ rfl
      have i0 : (0 : Int) ≤ (k : Int) := by omega
      have i1 : (k : Int) < (nodes : Int) := by omega
      clear f1 f2 f3 g HO HV HW HF HP HH
      go_wp2_with (go_at_call 24; refine (HZ.out _).mono ?_; rintro r w4 ⟨rfl, hb4⟩; have B4 := hide hb4; clear hb4)
      go_roundw
      case rel => exact ⟨k + 1, by omega, by go_num, BW.out.trans (B4.out.mono BW.out.size)⟩
      case measure => simp [intOf]; omega
    · have HPR : Hid (Calls Try.prog 25 #[.pointer (some ⟨b, o, none⟩)] wr fun r w' => r = .returned (.tuple #[.agg #[.int .u64 0, .int .u32 0, .slice none 0 0, .bool false, .int .u32 0], .agg #[.int .u64 0, .int .u32 0, .slice none 0 0, .bool false, .int .u32 0], .agg #[.int .u64 0, .int .u32 0]]) ∧ Below wr.heap.size wr w') :=
        pairs25 wr b o _ rank true val _ _ _ (HO.out.later BW.out)
      clear HV HW HF HP HH
      go_wp2_with (go_at_call 25; refine HPR.out.mono ?_; rintro r w4 ⟨rfl, hb4⟩; have B4 := hide hb4; clear hb4)
      refine (HZ.out _).mono ?_
      rintro r w5 ⟨rfl, hb5⟩
      have B5 := hide hb5
      obtain ⟨hc5, hf5⟩ := bcell hb5
      have hz5 : w4.heap.size + 1 + 1 < w5.heap.size := by have := hb5.size; simp at this; omega
      have hz6 : w4.heap.size + 1 < w5.heap.size := by omega
      have BW4 := hide (BW.out.trans (B4.out.mono BW.out.size))
      have BW5 := hide ((((BW4.out.alloc BW4.out.size _).alloc (by have := BW4.out.size; simp; omega) _).alloc (by have := BW4.out.size; simp; omega) _).trans (hb5.mono (by have := BW4.out.size; simp; omega)))
      clear hb5 B4 B5 HPR
      go_wp2_with fail
      refine (HZ.out _).mono ?_
      rintro r w6 ⟨rfl, hb6⟩
      obtain ⟨hc6, hf6⟩ := bcell hb6
      have BW6 := hide (BW5.out.trans (hb6.mono BW5.out.size))
      clear hb6
      go_wp2_with fail
      refine (refused26 w6 b o _ rank true val _ _ _ (HO.out.later BW6.out)).mono ?_
      rintro r w7 ⟨rfl, hb7⟩
      have BW7 := hide (BW6.out.trans (hb7.mono BW6.out.size))
      clear hb7 hc5 hc6 hf5 hf6 hz5 hz6
      go_wp2_with fail
      go_ret
      exact ⟨rfl, BW7.out.alloc BW7.out.size _⟩
end Go.Proofs.Qxb6604549a.Parts
