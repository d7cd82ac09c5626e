import Derived.Test.Qxb6602779aStart
namespace Go.Proofs.Qxb6602779a.Start
open Go.RowKit Parts

theorem info9 : (Try.prog.info? 9).map (fun i => (i.zero, i.size, i.bytes)) = some (some (.string ⟨#[]⟩), 1, 16) := by kernel_rfl
/-- The clone's row, whatever it holds. -/
def Own (w wr : World) (n : Nat) : Prop := ∃ cur : Array Value, cur.size = n ∧ wr.heap[w.heap.size]? = some (.cells cur 9 (0, 0)) ∧ Below w.heap.size w wr
theorem Own.set {w wr : World} {n : Nat} (h : Own w wr n) (k : Nat) (v : Value) : Own w (wr.setCell ⟨w.heap.size, k, none⟩ v) n := by
  obtain ⟨cur, h1, h2, h3⟩ := h
  exact ⟨cur.setIfInBounds k v, by simpa using h1, heap_setCell_same _ _ _ _ _ _ h2, h3.setCell (Nat.le_refl _) _⟩
def CloneOut (w : World) (len : Nat) (r : Ending) (w' : World) : Prop := ∃ b, r = .returned (.slice b len len) ∧ Below w.heap.size w w'

set_option maxHeartbeats 1000000 in
theorem clone_any (w : World) (a : Option Addr) (len cap : Nat) (hs : Src w a len cap) (hn : len ≤ 65536) :
    Calls Try.prog 12 #[.slice a len cap] w (CloneOut w len) := by
  have heq := fun w a n c => Lib.run_eql_slice_nil (P := Try.prog) w 22 9 a n c 0 0 Try.underlying22
  have HS := hide hs
  obtain ⟨_, ⟨rfl, rfl, rfl⟩ | ⟨x, rfl, _⟩⟩ := hs
  · go_enter Try.func12, Try.ntmps12
    go_wp2
    go_ret
    exact ⟨none, rfl, Below.refl _ _⟩
  · obtain ⟨i, hi, hz0, hz1, hz2⟩ := info_parts info9
    have hmk : ∀ w, ∃ cur : Array Value, cur.size = len ∧ (Instr.makeSlice 22 (.int .i64 len) (.int .i64 len)).run Try.prog w = .ok (.slice (some ⟨w.heap.size, 0, none⟩) len len) (w.alloc (.cells cur 9)) := by
      intro w
      have := run_make (P := Try.prog) w 22 9 i (.string ⟨#[]⟩) Try.underlying22 hi hz0 .i64 .i64 len len (by omega) (by omega) (by rw [hz2]; omega) (by omega)
      rw [hz1] at this
      exact ⟨madeCells (Value.string ⟨#[]⟩).cells len, size_madeCells _ _, by simpa using this⟩
    obtain ⟨cur, hcs, hmk⟩ := hmk w
    have h0 : Own w (w.alloc (.cells cur 9)) len := ⟨cur, hcs, heap_alloc_new _ _, (Below.refl _ _).alloc (Nat.le_refl _) _⟩
    have H0 := hide h0
    clear h0 hcs hi hz0 hz1 hz2
    go_enter Try.func12, Try.ntmps12
    go_wp2
    go_loopw [4] (fun i wr => ∃ k : Nat, k ≤ len ∧ i = .int .i64 k ∧ Hid (Own w wr len)) (fun i _ => len - (intOf i).toNat)
    case atStart => exact ⟨0, Nat.zero_le _, rfl, H0⟩
    case round =>
      clear hmk H0
      obtain ⟨k, hk, rfl, HO⟩ := hrel
      by_cases hlt : k < len
      · obtain ⟨b, off, s, hx, hc, hsz⟩ := HS.out.at k hlt
        obtain rfl := Option.some.inj hx
        obtain ⟨cur', h1, h2, h3⟩ := HO.out
        have hc' : wr.cell? ⟨b, off + k, none⟩ = some (.string s) := by rw [h3.cell (block_lt_of_cell hc)]; exact hc
        have cg : wr.cell? ⟨w.heap.size, k, none⟩ = some cur'[k] := by rw [cell_of_row _ _ _ _ _ _ h2]; simp
        have fg : ∀ j, wr.frozen? ⟨w.heap.size, j, none⟩ = false := fun j => frozen_of_row _ _ _ _ _ h2
        have i0 : (0 : Int) ≤ (k : Int) := by omega
        have i1 : (k : Int) < (len : Int) := by omega
        clear hx hc h2 h3
        generalize cur'[k] = old at *
        clear h1
        go_wp2
        go_roundw
        case rel => exact ⟨k + 1, by omega, by go_num, HO.out.set _ _⟩
        case measure => simp [intOf]; omega
      · go_wp2
        go_ret
        exact ⟨_, rfl, by obtain ⟨_, _, _, h⟩ := HO.out; exact h⟩

set_option maxHeartbeats 1000000 in
theorem bytes17 (w : World) (x y z : ByteArray) (a : Option Addr) (len cap : Nat) (u v : Bool) (hs : Src w a len cap) (hx : x.size ≤ maxLen) (hy : y.size ≤ maxLen) (hz : z.size ≤ maxLen) :
    Calls Try.prog 17 #[.string x, .string y, .string z, .slice a len cap, .bool u, .bool v] w (BoolOut w) := by
  have hl := hs.1
  unfold maxLen at hl hx hy hz
  have HS := hide hs
  clear hs
  generalize hx' : x.size = nx at *
  generalize hy' : y.size = ny at *
  generalize hz' : z.size = nz at *
  go_enter Try.func17, Try.ntmps17
  go_wp2
  all_goals first
    | (go_ret; exact ⟨false, rfl, rfl⟩)
    | skip
  go_loop [13, 14] (fun t i => ∃ k t0 : Nat, k ≤ len ∧ i = .int .i64 k ∧ t = .int .i64 t0 ∧ t0 ≤ 1048576) (fun _ i => len - (intOf i).toNat)
  case atStart => exact ⟨0, nx + ny + nz + len, by omega, rfl, by go_num, by omega⟩
  case round =>
    obtain ⟨k, t0, hk, rfl, rfl, ht⟩ := hrel
    by_cases hlt : k < len
    · obtain ⟨b, off, s, rfl, hc, hsz⟩ := HS.out.at k hlt
      clear HS
      have i0 : (0 : Int) ≤ (k : Int) := by omega
      have i1 : (k : Int) < (len : Int) := by omega
      generalize hq : s.size = q at *
      go_wp2
      case roundEnd =>
        go_round
        case rel => exact ⟨k + 1, t0 + q, by omega, by go_num, by go_num, by omega⟩
        case measure => simp [intOf]; omega
      all_goals
        go_ret
        exact ⟨false, rfl, rfl⟩
    · go_wp2
      go_ret
      exact ⟨true, rfl, rfl⟩

set_option maxRecDepth 100000 in
set_option maxHeartbeats 2000000 in
theorem bytes11 (w : World) (x y z : ByteArray) (a : Option Addr) (len cap : Nat) (x2 y2 z2 : ByteArray) (a2 : Option Addr) (len2 cap2 : Nat) (u : Bool) (hs : Src w a len cap) (hs2 : Src w a2 len2 cap2)
    (hx : x.size ≤ maxLen) (hy : y.size ≤ maxLen) (hz : z.size ≤ maxLen) (hx2 : x2.size ≤ maxLen) (hy2 : y2.size ≤ maxLen) (hz2 : z2.size ≤ maxLen) :
    Calls Try.prog 11 #[.string x, .string y, .string z, .slice a len cap, .string x2, .string y2, .string z2, .slice a2 len2 cap2, .bool u] w (BoolOut w) := by
  have hl := hs.1
  have hl2 := hs2.1
  unfold maxLen at hl hx hy hz hl2 hx2 hy2 hz2
  have HS := hide hs
  have HS2 := hide hs2
  clear hs hs2
  generalize hx' : x.size = nx at *
  generalize hy' : y.size = ny at *
  generalize hz' : z.size = nz at *
  generalize hx2' : x2.size = nx2 at *
  generalize hy2' : y2.size = ny2 at *
  generalize hz2' : z2.size = nz2 at *
  go_enter Try.func11, Try.ntmps11
  go_wp2
  all_goals first
    | (go_ret; exact ⟨false, rfl, rfl⟩)
    | skip
  go_loop [19, 20] (fun t i => ∃ k t0 : Nat, k ≤ len ∧ i = .int .i64 k ∧ t = .int .i64 t0 ∧ t0 ≤ 1048576) (fun _ i => len - (intOf i).toNat)
  case atStart => exact ⟨0, nx + ny + nz + len, by omega, rfl, by go_num, by omega⟩
  case round =>
    obtain ⟨k, t0, hk, rfl, rfl, ht⟩ := hrel
    by_cases hlt : k < len
    · obtain ⟨b, off, s, rfl, hc, hsz⟩ := HS.out.at k hlt
      clear HS HS2
      have i0 : (0 : Int) ≤ (k : Int) := by omega
      have i1 : (k : Int) < (len : Int) := by omega
      generalize hq : s.size = q at *
      go_wp2
      case roundEnd =>
        go_round
        case rel => exact ⟨k + 1, t0 + q, by omega, by go_num, by go_num, by omega⟩
        case measure => simp [intOf]; omega
      all_goals
        go_ret
        exact ⟨false, rfl, rfl⟩
    · clear HS
      go_wp2
      all_goals first
        | (go_ret; exact ⟨false, rfl, rfl⟩)
        | skip
      go_loop [19, 21] (fun t i => ∃ k t0 : Nat, k ≤ len2 ∧ i = .int .i64 k ∧ t = .int .i64 t0 ∧ t0 ≤ 1048576) (fun _ i => len2 - (intOf i).toNat)
      case atStart => exact ⟨0, t0 + nx2 + ny2 + nz2 + len2, by omega, rfl, by go_num, by omega⟩
      case round =>
        clear ht hlt hk
        obtain ⟨k, t0, hk, rfl, rfl, ht⟩ := hrel
        by_cases hlt : k < len2
        · obtain ⟨b, off, s, rfl, hc, hsz⟩ := HS2.out.at k hlt
          clear HS2
          have i0 : (0 : Int) ≤ (k : Int) := by omega
          have i1 : (k : Int) < (len2 : Int) := by omega
          generalize hq : s.size = q at *
          go_wp2
          case roundEnd =>
            go_round
            case rel => exact ⟨k + 1, t0 + q, by omega, by go_num, by go_num, by omega⟩
            case measure => simp [intOf]; omega
          all_goals
            go_ret
            exact ⟨false, rfl, rfl⟩
        · go_wp2
          go_ret
          exact ⟨true, rfl, rfl⟩

theorem src_later {w w' : World} {a : Option Addr} {n c : Nat} (h : Src w a n c) (hb : Below w.heap.size w w') : Src w' a n c := by
  obtain ⟨hl, h⟩ := h
  refine ⟨hl, ?_⟩
  rcases h with h | ⟨x, rfl, h⟩
  · exact .inl h
  · refine .inr ⟨x, rfl, fun j hj => ?_⟩
    obtain ⟨s, h1, h2⟩ := h j hj
    exact ⟨s, by rw [hb.cell (block_lt_of_cell h1)]; exact h1, h2⟩
theorem keepU {g g' : Nat} {A B : Array Value} {w w' : World} (h : w.heap[g]? = some (.cells A 42 (0, 0))) (hu : Upd g' B w w') (hne : g ≠ g') : w'.heap[g]? = some (.cells A 42 (0, 0)) := by
  rw [hu.grown.block g (lt_of_some h) (by simp; exact hne)]; exact h
theorem belowU {g B : Nat} {A : Array Value} {w0 w w' : World} (h : Below B w0 w) (hu : Upd g A w w') (hB : B ≤ w.heap.size) (hg : B ≤ g) : Below B w0 w' :=
  h.grown hu.grown hB (fun k hk => by cases hk; exact hg)
theorem keepB {g : Nat} {o : Obj} {w w' : World} (h : w.heap[g]? = some o) (hb : Below w.heap.size w w') : w'.heap[g]? = some o := by
  rw [hb.block g (lt_of_some h)]; exact h

set_option maxRecDepth 100000 in
set_option maxHeartbeats 2000000 in
theorem walk6 (w : World) (typ code msg : ByteArray) (a : Option Addr) (len cap : Nat) (u v : Bool) (hs : Src w a len cap) (hx : typ.size ≤ maxLen) (hy : code.size ≤ maxLen) (hz : msg.size ≤ maxLen) :
    Calls Try.prog 6 #[.string typ, .string code, .string msg, .slice a len cap, .bool u, .bool v] w fun r w' => r = .returned (.bool true) ∧ Below w.heap.size w w' := by
  have HB := hide (bytes17 w typ code msg a len cap u v hs hx hy hz)
  have HF := hide (flag_any w a len cap hs)
  have HC := hide (fun hn => clone_any w a len cap hs hn)
  clear hs
  unfold maxLen at hx hy hz
  generalize hx' : typ.size = nx at *
  generalize hy' : code.size = ny at *
  generalize hz' : msg.size = nz at *
  go_enter Try.func6, Try.ntmps6
  go_wp2_with fail
  refine HB.out.mono ?_
  rintro r w' ⟨b, rfl, hw⟩
  subst w'
  clear HB
  cases b
  · go_wp2_with fail
    go_ret
    exact ⟨rfl, Below.refl _ _⟩
  · go_wp2_with (go_at_call 8; refine HF.out.mono ?_; rintro r w' ⟨t, rfl, ht, htl, hw⟩; subst w'; have HT := hide htl; clear htl)
    all_goals first
      | (go_ret; exact ⟨rfl, Below.refl _ _⟩)
      | skip
    refine (HC.out (by have := HT.out; omega)).mono ?_
    rintro r w1 ⟨b, rfl, hb1⟩
    have HB1 := hide hb1
    clear hb1 HC HF HT
    go_wp2_with fail
    refine (new_any _ typ code msg b len len).mono ?_
    rintro r w2 ⟨rfl, hw2⟩
    have G2 : Hid (w2.heap[w1.heap.size]? = some (.cells #[.string typ, .string code, .string msg, .slice b len len] 42 (0, 0))) := by rw [hw2]; exact heap_alloc_new _ _
    have HB2 : Hid (Below w.heap.size w w2) := by rw [hw2]; exact HB1.out.alloc HB1.out.size _
    clear hw2
    go_wp2_with fail
    refine (start_any w2 w1.heap.size _ rfl u G2.out).mono ?_
    rintro r w3 ⟨rfl, hu3⟩
    have G3 := hide hu3.row
    have HB3 := hide (belowU HB2.out hu3 HB2.out.size HB1.out.size)
    clear hu3 G2 HB2
    go_wp2_with fail
    refine (start_any w3 w1.heap.size _ (by cases u <;> rfl) v G3.out).mono ?_
    rintro r w4 ⟨rfl, hu4⟩
    have G4 := hide hu4.row
    have HB4 := hide (belowU HB3.out hu4 HB3.out.size HB1.out.size)
    clear hu4 G3 HB3
    have L1 := HB1.out.size
    go_wp2_with fail
    have hlt4 := lt_of_some G4.out
    have G40 : Hid (((w4.alloc (.cells #[.string ⟨#[]⟩, .string ⟨#[]⟩, .string ⟨#[]⟩, .slice none 0 0] 42)).heap[w1.heap.size]?) = some (.cells (ev v) 42 (0, 0))) := by
      show _ = _
      rw [heap_alloc_old _ _ hlt4]; exact G4.out
    refine (start_any _ w4.heap.size _ rfl v (heap_alloc_new _ _)).mono ?_
    rintro r w5 ⟨rfl, hu5⟩
    have G5 := hide hu5.row
    have G4' := hide (keepU G40.out hu5 (by omega))
    have HB5 := hide (belowU (HB4.out.alloc HB4.out.size _) hu5 (by have := HB4.out.size; simp; omega) (by omega))
    clear hu5 G40 G4 HB4
    generalize w4.heap.size = g2 at *
    generalize w1.heap.size = g1 at *
    go_wp2_with fail
    refine (cause_any w5 g1 v G4'.out).mono ?_
    rintro r w6 ⟨rfl, hb6⟩
    have G6 := hide (keepB G5.out hb6)
    have HB6 := hide (HB5.out.trans (hb6.mono HB5.out.size))
    clear hb6 G5 G4' HB5
    go_wp2_with fail
    refine (cause_any w6 g2 v G6.out).mono ?_
    rintro r w7 ⟨rfl, hb7⟩
    have HB7 := hide (HB6.out.trans (hb7.mono HB6.out.size))
    clear hb7 G6 HB6
    go_wp2_with fail
    refine (eq_any w7 v).mono ?_
    rintro r w8 ⟨rfl, hb8⟩
    have HB8 := hide (HB7.out.trans (hb8.mono HB7.out.size))
    clear hb8 HB7
    go_wp2
    go_ret
    exact ⟨rfl, HB8.out⟩

set_option maxRecDepth 100000 in
set_option maxHeartbeats 2000000 in
theorem walk5 (w : World) (x y z : ByteArray) (a : Option Addr) (len cap : Nat) (x2 y2 z2 : ByteArray) (a2 : Option Addr) (len2 cap2 : Nat) (v : Bool) (hs : Src w a len cap) (hs2 : Src w a2 len2 cap2)
    (hx : x.size ≤ maxLen) (hy : y.size ≤ maxLen) (hz : z.size ≤ maxLen) (hx2 : x2.size ≤ maxLen) (hy2 : y2.size ≤ maxLen) (hz2 : z2.size ≤ maxLen) :
    Calls Try.prog 5 #[.string x, .string y, .string z, .slice a len cap, .string x2, .string y2, .string z2, .slice a2 len2 cap2, .bool v] w fun r w' => r = .returned (.bool true) ∧ Below w.heap.size w w' := by
  have HB := hide (bytes11 w x y z a len cap x2 y2 z2 a2 len2 cap2 v hs hs2 hx hy hz hx2 hy2 hz2)
  have HF := hide (flag_any w a len cap hs)
  have HF2 := hide (flag_any w a2 len2 cap2 hs2)
  have HC := hide (fun hn => clone_any w a len cap hs hn)
  have HS2 := hide hs2
  clear hs hs2
  unfold maxLen at hx hy hz hx2 hy2 hz2
  generalize hx' : x.size = nx at *
  generalize hy' : y.size = ny at *
  generalize hz' : z.size = nz at *
  generalize hx2' : x2.size = nx2 at *
  generalize hy2' : y2.size = ny2 at *
  generalize hz2' : z2.size = nz2 at *
  go_enter Try.func5, Try.ntmps5
  go_wp2_with fail
  refine HB.out.mono ?_
  rintro r w' ⟨b, rfl, hw⟩
  subst w'
  clear HB
  cases b
  · go_wp2_with fail
    go_ret
    exact ⟨rfl, Below.refl _ _⟩
  · go_wp2_with fail
    all_goals first
      | (go_ret; exact ⟨rfl, Below.refl _ _⟩)
      | skip
    refine HF.out.mono ?_
    rintro r w' ⟨t, rfl, ht, htl, hw⟩
    subst w'
    have HT := hide htl
    clear htl HF
    go_wp2_with fail
    refine HF2.out.mono ?_
    rintro r w' ⟨t2, rfl, ht2, htl2, hw⟩
    subst w'
    have HT2 := hide htl2
    clear htl2 HF2
    go_wp2_with fail
    all_goals first
      | (go_ret; exact ⟨rfl, Below.refl _ _⟩)
      | skip
    refine (HC.out (by have := HT.out; omega)).mono ?_
    rintro r w1 ⟨b, rfl, hb1⟩
    have HB1 := hide hb1
    clear hb1 HC HT
    go_wp2_with fail
    refine (clone_any w1 a2 len2 cap2 (src_later HS2.out HB1.out) (by have := HT2.out; omega)).mono ?_
    rintro r w2 ⟨b2, rfl, hb2⟩
    have HB2 := hide (HB1.out.trans (hb2.mono HB1.out.size))
    clear hb2 HT2 HS2 HB1
    go_wp2_with fail
    refine (new_any _ x y z b len len).mono ?_
    rintro r w3 ⟨rfl, hw3⟩
    have G3 : Hid (w3.heap[w2.heap.size]? = some (.cells #[.string x, .string y, .string z, .slice b len len] 42 (0, 0))) := by rw [hw3]; exact heap_alloc_new _ _
    have HB3 : Hid (Below w.heap.size w w3) := by rw [hw3]; exact HB2.out.alloc HB2.out.size _
    have L2 := HB2.out.size
    clear hw3 HB2
    generalize w2.heap.size = g1 at *
    go_wp2_with fail
    refine (new_any _ x2 y2 z2 b2 len2 len2).mono ?_
    rintro r w4 ⟨rfl, hw4⟩
    have G4 : Hid (w4.heap[w3.heap.size]? = some (.cells #[.string x2, .string y2, .string z2, .slice b2 len2 len2] 42 (0, 0))) := by rw [hw4]; exact heap_alloc_new _ _
    have K4 : Hid (w4.heap[g1]? = some (.cells #[.string x, .string y, .string z, .slice b len len] 42 (0, 0))) := by rw [hw4]; show _ = _; rw [heap_alloc_old _ _ (lt_of_some G3.out)]; exact G3.out
    have HB4 : Hid (Below w.heap.size w w4) := by rw [hw4]; exact HB3.out.alloc HB3.out.size _
    have hne : g1 ≠ w3.heap.size := by have := lt_of_some G3.out; omega
    have L3 := HB3.out.size
    clear hw4 HB3 G3
    generalize w3.heap.size = g2 at *
    go_wp2_with fail
    refine (start_any w4 g1 _ rfl v K4.out).mono ?_
    rintro r w5 ⟨rfl, hu5⟩
    have G5 := hide hu5.row
    have K5 := hide (keepU G4.out hu5 (Ne.symm hne))
    have HB5 := hide (belowU HB4.out hu5 HB4.out.size L2)
    clear hu5 G4 K4 HB4
    go_wp2_with fail
    refine (start_any w5 g2 _ rfl v K5.out).mono ?_
    rintro r w6 ⟨rfl, hu6⟩
    have G6 := hide hu6.row
    have K6 := hide (keepU G5.out hu6 hne)
    have HB6 := hide (belowU HB5.out hu6 HB5.out.size L3)
    clear hu6 G5 K5 HB5
    go_wp2_with fail
    refine (cause_any w6 g1 v K6.out).mono ?_
    rintro r w7 ⟨rfl, hb7⟩
    have G7 := hide (keepB G6.out hb7)
    have HB7 := hide (HB6.out.trans (hb7.mono HB6.out.size))
    clear hb7 G6 K6 HB6
    go_wp2_with fail
    refine (cause_any w7 g2 v G7.out).mono ?_
    rintro r w8 ⟨rfl, hb8⟩
    have HB8 := hide (HB7.out.trans (hb8.mono HB7.out.size))
    clear hb8 G7 HB7
    go_wp2_with fail
    refine (eq_any w8 v).mono ?_
    rintro r w9 ⟨rfl, hb9⟩
    have HB9 := hide (HB8.out.trans (hb9.mono HB8.out.size))
    clear hb9 HB8
    go_wp2
    go_ret
    exact ⟨rfl, HB9.out⟩
end Go.Proofs.Qxb6602779a.Start
