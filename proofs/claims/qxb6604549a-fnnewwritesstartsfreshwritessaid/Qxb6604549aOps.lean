import Derived.Test.Qxb6604549aClone
import Derived.Deep.RegionHeld3
import Derived.Deep.DrawnRows
namespace Go.Proofs.Qxb6604549a.Parts
open Go.RowKit

/-- A pair that is zero. -/
def zp : List Value := [.int .u64 0, .int .u32 0, .slice none 0 0, .bool false, .int .u32 0]
/-- What lies behind an operation's id. -/
def opTail (rank : Int) (wr : Bool) (val heard answered held : Value) : List Value :=
  [.int .u32 rank, .bool wr, val, .bool false, .int .i64 0, .bool false, .int .u64 0, .bool false, .bool false, .int .i64 0, heard, .int .i64 0, answered, held] ++ (zp ++ (zp ++ [.int .u64 0, .int .u32 0]))
/-- An operation in memory, from place o of block b on. -/
structure OpAt (w : World) (b o : Nat) (ids : List Value) (rank : Int) (wr : Bool) (val heard answered held : Value) : Prop where
  id : w.rangeAt b o ids
  len : ids.length = 16
  tail : w.rangeAt b (o + 16) (opTail rank wr val heard answered held)
theorem OpAt.c {w : World} {b o : Nat} {ids : List Value} {rank : Int} {wr : Bool} {val heard answered held : Value} (h : OpAt w b o ids rank wr val heard answered held) (j : Nat) (v : Value) (hj : (opTail rank wr val heard answered held)[j]? = some v) :
    w.cell? ⟨b, o + (16 + j), none⟩ = some v := by
  have := h.tail j v hj
  rw [Nat.add_assoc] at this
  exact this

set_option maxHeartbeats 1000000 in
theorem same22 (w : World) (v v' : Value) (x : Option (List Int)) (h : Bs w v x) (h' : Bs w v' x) (hl : blen x ≤ 1048576) :
    Calls Try.prog 22 #[v, v'] w fun r w' => r = .returned (.bool true) ∧ ∃ q, w' = w.drewN q := by
  have heq := fun w a n c => Lib.run_eql_slice_nil (P := Try.prog) w 33 5 a n c 0 0 Try.underlying33
  cases x with
  | none =>
    obtain rfl : v = .slice none 0 0 := h
    obtain rfl : v' = .slice none 0 0 := h'
    clear hl
    go_enter Try.func22, Try.ntmps22
    go_wp2
    go_loop [5] (fun i => i = .int .i64 0) (fun _ => 0)
    case atStart => rfl
    case round =>
      subst hrel
      go_wp2
      go_ret
      exact ⟨rfl, 0, rfl⟩
  | some l =>
    obtain ⟨a, c, rfl, h1⟩ := h
    obtain ⟨a', c', rfl, h2⟩ := h'
    have hl' : l.length ≤ 1048576 := hl
    have H1 := hide h1
    have H2 := hide h2
    clear h1 h2 hl
    go_enter Try.func22, Try.ntmps22
    go_wp2
    go_loopw [5] (fun i wr => ∃ k : Nat, k ≤ l.length ∧ i = .int .i64 k ∧ ∃ q, wr = w.drewN q) (fun i _ => l.length - (intOf i).toNat)
    case atStart => exact ⟨0, Nat.zero_le _, rfl, 0, rfl⟩
    case round =>
      obtain ⟨k, hk, rfl, q, rfl⟩ := hrel
      by_cases hlt : k < l.length
      · have c1 := H1.out k hlt
        have c2 := H2.out k hlt
        obtain ⟨b, o, sp⟩ := a
        obtain ⟨b', o', sp'⟩ := a'
        obtain rfl : sp = none := by simpa [Addr.add] using World.cell?_spot (H1.out 0 (by omega))
        obtain rfl : sp' = none := by simpa [Addr.add] using World.cell?_spot (H2.out 0 (by omega))
        rw [show (⟨b, o, none⟩ : Addr).add k = ⟨b, o + k, none⟩ by unfold Addr.add; split <;> simp_all] at c1
        rw [show (⟨b', o', none⟩ : Addr).add k = ⟨b', o' + k, none⟩ by unfold Addr.add; split <;> simp_all] at c2
        clear H1 H2
        have i0 : (0 : Int) ≤ (k : Int) := by omega
        have i1 : (k : Int) < (l.length : Int) := by omega
        generalize l.getD k 0 = v at *
        go_wp2
        go_quiet (fail)
        go_wp2
        go_roundw
        case rel => exact ⟨k + 1, by omega, by go_num, _, rfl⟩
        case measure => simp [intOf]; omega
      · go_wp2
        go_ret
        exact ⟨rfl, _, rfl⟩

set_option maxHeartbeats 1000000 in
theorem zero24 (w : World) : Calls Try.prog 24 #[.agg zp.toArray] w fun r w' => r = .returned (.bool true) ∧ Below w.heap.size w w' := by
  have heq := fun w a n c => Lib.run_eql_slice_nil (P := Try.prog) w 33 5 a n c 0 0 Try.underlying33
  unfold zp
  go_enter Try.func24, Try.ntmps24
  go_wp2
  go_ret
  exact ⟨rfl, (Below.refl _ _).alloc (Nat.le_refl _) _⟩

set_option maxHeartbeats 1000000 in
theorem marks23 (w : World) (b o : Nat) (ids : List Value) (rank : Int) (wr : Bool) (val heard answered held : Value) (h : OpAt w b o ids rank wr val heard answered held) :
    Calls Try.prog 23 #[.pointer (some ⟨b, o, none⟩)] w fun r w' => r = .returned (.tuple #[heard, answered, held]) ∧ ∃ q, w' = w.drewN q := by
  have c1 := h.c 10 _ rfl
  have c2 := h.c 12 _ rfl
  have c3 := h.c 13 _ rfl
  clear h
  go_enter Try.func23, Try.ntmps23
  go_wp2
  go_quiet (fail)
  go_wp2
  go_ret3
  exact ⟨rfl, _, rfl⟩

set_option maxHeartbeats 1000000 in
theorem refused26 (w : World) (b o : Nat) (ids : List Value) (rank : Int) (wr : Bool) (val heard answered held : Value) (h : OpAt w b o ids rank wr val heard answered held) :
    Calls Try.prog 26 #[.pointer (some ⟨b, o, none⟩)] w fun r w' => r = .returned (.tuple #[.agg #[.int .u64 0, .int .u32 0], .bool false]) ∧ Below w.heap.size w w' := by
  have c1 := h.c 9 _ rfl
  have c2 := h.c 24 _ rfl
  have c3 := h.c 25 _ rfl
  have hb : b < w.heap.size := block_lt_of_cell c1
  clear h
  go_enter Try.func26, Try.ntmps26
  go_wp2
  go_region
  go_wp2
  exact bodyPost_ret (v := .tuple #[.agg #[.int .u64 0, .int .u32 0], .bool false]) (by simp [results, Try.results26, go_sem]) rfl ⟨rfl, ((Below.refl _ _).alloc (Nat.le_refl _) _).drew⟩

set_option maxHeartbeats 2000000 in
theorem pairs25 (w : World) (b o : Nat) (ids : List Value) (rank : Int) (wr : Bool) (val heard answered held : Value) (h : OpAt w b o ids rank wr val heard answered held) :
    Calls Try.prog 25 #[.pointer (some ⟨b, o, none⟩)] w fun r w' => r = .returned (.tuple #[.agg zp.toArray, .agg zp.toArray, .agg #[.int .u64 0, .int .u32 0]]) ∧ Below w.heap.size w w' := by
  have c0 := h.c 14 _ rfl
  have c1 := h.c 15 _ rfl
  have c2 := h.c 16 _ rfl
  have c3 := h.c 17 _ rfl
  have c4 := h.c 18 _ rfl
  have d0 := h.c 19 _ rfl
  have d1 := h.c 20 _ rfl
  have d2 := h.c 21 _ rfl
  have d3 := h.c 22 _ rfl
  have d4 := h.c 23 _ rfl
  have e0 := h.c 24 _ rfl
  have e1 := h.c 25 _ rfl
  have hb : b < w.heap.size := block_lt_of_cell c1
  have hb1 : b < w.heap.size + 1 := by omega
  have hb2 : b < w.heap.size + 1 + 1 := by omega
  clear h
  unfold zp
  go_enter Try.func25, Try.ntmps25
  go_wp2
  go_region
  go_wp2
  exact bodyPost_ret (v := .tuple #[.agg #[.int .u64 0, .int .u32 0, .slice none 0 0, .bool false, .int .u32 0], .agg #[.int .u64 0, .int .u32 0, .slice none 0 0, .bool false, .int .u32 0], .agg #[.int .u64 0, .int .u32 0]]) (by simp [results, Try.results25, go_sem]) rfl ⟨rfl, ((((Below.refl _ _).alloc (Nat.le_refl _) _).alloc (by simp) _).alloc (by simp; omega) _).drew⟩
end Go.Proofs.Qxb6604549a.Parts
