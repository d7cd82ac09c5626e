import Derived.Test.Qxb6602659aRep5
namespace Go.Proofs.Qxb6602659a.Win
open Go.RowKit

set_option maxHeartbeats 1000000 in
theorem equal_any (w : World) (g1 g2 : Nat) (l : List Int) (h1 : w.heap[g1]? = some (.cells (cells l) 5 (0, 0))) (h2 : w.heap[g2]? = some (.cells (cells l) 5 (0, 0))) (m : Nat) (hl : l.length = m) (hm : m ≤ 524288) :
    Calls Try.prog 13 #[.slice (some ⟨g1, 0, none⟩) m m, .slice (some ⟨g2, 0, none⟩) m m] w fun r w' => r = .returned (.bool true) ∧ ∃ q, w' = w.drewN q := by
  have HC : Hid (∀ j, j < m → w.cell? ⟨g1, j, none⟩ = some (.int .u8 (l.getD j 0)) ∧ w.cell? ⟨g2, j, none⟩ = some (.int .u8 (l.getD j 0))) := by
    intro j hj
    rw [cell_of_row _ _ _ _ _ _ h1, cell_of_row _ _ _ _ _ _ h2]
    exact ⟨cells_at l j (by omega), cells_at l j (by omega)⟩
  clear h1 h2 hl
  go_enter Try.func13, Try.ntmps13
  go_wp2
  go_loopw [5] (fun i wr => ∃ k : Nat, k ≤ m ∧ i = .int .i64 k ∧ ∃ q, wr = w.drewN q) (fun i _ => m - (intOf i).toNat)
  case atStart => exact ⟨0, Nat.zero_le _, rfl, 0, rfl⟩
  case round =>
    obtain ⟨k, hk, rfl, q, rfl⟩ := hrel
    by_cases hlt : k < m
    · obtain ⟨c1, c2⟩ := HC.out k hlt
      clear HC
      have i0 : (0 : Int) ≤ (k : Int) := by omega
      have i1 : (k : Int) < (m : Int) := by omega
      generalize l.getD k 0 = v at *
      go_wp2
      go_quiet (fail)
      go_wp2
      go_roundw
      case rel => exact ⟨k + 1, by omega, by go_num, _, rfl⟩
      case measure => simp [intOf]; omega
    · go_wp2
      go_ret
      exact ⟨rfl, _, rfl⟩

theorem below_drewN {B : Nat} {a w : World} (h : Below B a w) (n : Nat) : Below B a (w.drewN n) := ⟨h.os, h.tape, h.output, h.size, h.block⟩
structure St4 (w wr : World) (gb go : Nat) (B C : List Int) : Prop where
  buf : wr.heap[gb]? = some (.cells (cells B) 5 (0, 0))
  by' : wr.heap[go]? = some (.cells (cells C) 5 (0, 0))
  below : Below w.heap.size w wr
  own : w.heap.size ≤ gb
  ne : gb < go
theorem St4.put {w wr w1 : World} {gb go : Nat} {B C C' : List Int} (h : St4 w wr gb go B C) (hC : w1.heap[go]? = some (.cells (cells C') 5 (0, 0))) (hg : wr.grownBy w1 (some go)) : St4 w w1 gb go B C' := by
  have h1 := h.ne
  have h2 := h.own
  refine ⟨?_, hC, h.below.grown hg h.below.size (fun k hk => by cases hk; omega), h.own, h.ne⟩
  rw [hg.block gb (lt_of_some h.buf) (by simp; omega)]; exact h.buf
theorem St4.of {w wr : World} {gb gs go : Nat} {B l : List Int} (h : St w wr gb gs go B l [] 0) : St4 w wr gb go B l := ⟨h.buf, h.orig, h.below, h.own, h.ne2⟩

set_option maxRecDepth 100000 in
set_option maxHeartbeats 2000000 in
theorem early4 (w : World) (a : Option Addr) (m c : Nat) (e f p d n : Int) (h1 : m ≤ maxLen) (hno : ¬ Ok5 m e f p d n) :
    Calls Try.prog 4 #[.slice a m c, .int .i64 e, .int .i64 f, .int .i64 p, .int .i64 d, .int .i64 n] w fun r w' => r = .returned (.bool true) ∧ Below w.heap.size w w' := by
  have HN := hide hno
  clear hno
  have h1' := h1
  unfold maxLen at h1'
  by_cases hb : m ≤ 1048576
  · by_cases h0 : m = 0
    · subst h0
      go_enter Try.func4, Try.ntmps4
      go_wp2_with (go_at_call 11; refine (bytes4 w a _ c e f p d n h1).mono ?_; rintro r w' ⟨rfl, rfl⟩)
      go_ret
      exact ⟨rfl, Below.refl _ _⟩
    · have hz : ((m : Int) == 0) = false := by rw [beq_eq_false_iff_ne]; omega
      go_enter Try.func4, Try.ntmps4
      go_wp2_with (go_at_call 11; refine (bytes4 w a m c e f p d n h1).mono ?_; rintro r w' ⟨rfl, rfl⟩)
      all_goals first
        | (go_ret; exact ⟨rfl, Below.refl _ _⟩)
        | skip
      refine absurd ?_ HN.out
      unfold Ok5
      exact ⟨by omega, by omega, by omega, by omega, by omega, by omega, by omega, by omega, by omega, by omega, by omega⟩
  · go_enter Try.func4, Try.ntmps4
    go_wp2_with (go_at_call 11; refine (bytes4 w a m c e f p d n h1).mono ?_; rintro r w' ⟨rfl, rfl⟩)
    go_ret
    exact ⟨rfl, Below.refl _ _⟩

set_option maxRecDepth 100000 in
set_option maxHeartbeats 4000000 in
theorem main4 (w : World) (a : Option Addr) (m c : Nat) (l : List Int) (e f p dist n : Nat) (hs : Src w a m c l)
    (h1 : m ≤ 524288) (he : e < m) (hf : f ≤ m) (hp : p ≤ m) (hd : 0 < dist) (hdm : dist ≤ m) (hn : n ≤ maxLen) :
    Calls Try.prog 4 #[.slice a m c, .int .i64 e, .int .i64 f, .int .i64 p, .int .i64 dist, .int .i64 n] w fun r w' => r = .returned (.bool true) ∧ Below w.heap.size w w' := by
  have hl : l.length = m := hs.1
  have HL := hide hl
  have HS := hide hs
  have HN := hide hn
  unfold maxLen at hn
  clear hs hl
  have hz : ((m : Int) == 0) = false := by rw [beq_eq_false_iff_ne]; omega
  have hb : decide (m ≤ 1048576) = true := by simp; omega
  have i1 : (1 : Int) ≤ (dist : Int) := by omega
  go_enter Try.func4, Try.ntmps4
  go_wp2_with (go_at_call 11; refine (bytes4 w a m c e f p dist n (by unfold maxLen; omega)).mono ?_; rintro r w' ⟨rfl, hw⟩; subst w'; rw [hb])
  refine (clone_src _ a m c l HS.out (by omega)).mono ?_
  rintro r w1 ⟨b0, rfl, hb0, hr0, hB0⟩
  obtain rfl := hb0 (by omega)
  have R0 := hide (hr0 (by omega))
  have B0 := hide hB0
  clear hb0 hr0 hB0
  go_wp2_with fail
  have hsr := src_row R0.out
  rw [HL.out] at hsr
  refine (clone_src _ _ m m l hsr (by omega)).mono ?_
  rintro r w3 ⟨b2, rfl, hb2, hr2, hB2⟩
  obtain rfl := hb2 (by omega)
  have HT := hide (St.start2 R0.out (hr2 (by omega)) B0.out hB2)
  clear hb2 hr2 hB2 hsr R0 B0 HS
  generalize w1.heap.size = go at *
  clear w1
  go_wp2_with fail
  have hrep := zzrepeat_any w3 w.heap.size l e f p dist n HT.out.buf (by rw [HL.out]; exact h1) (by rw [HL.out]; exact he) (by rw [HL.out]; exact hf) (by rw [HL.out]; exact hp) hd (by rw [HL.out]; exact hdm) HN.out
  rw [HL.out] at hrep
  refine hrep.mono ?_
  clear hrep
  obtain ⟨K, hK⟩ : ∃ K, K = min n (m - p) := ⟨_, rfl⟩
  rw [← hK]
  rintro r w4 ⟨rfl, hB4, hg4⟩
  have HT4 := hide (St4.of (HT.out.put hB4 hg4))
  clear hB4 hg4 HT
  have hKm : p + K ≤ m := by omega
  by_cases hnk : n < m - p
  case' pos =>
    obtain rfl : K = n := by omega
    have j1 : (K : Int) < (m : Int) - (p : Int) := by omega
  case' neg =>
    have j0 : (m : Int) - (p : Int) = (K : Int) := by omega
    have j1 : decide (n < K) = false := by simp; omega
    have j2 : ¬ n < K := by omega
  all_goals
    clear hK
    go_wp2_with fail
    go_loopw [20, 21, 22, 23] (fun e1 f1 p1 i wr => ∃ j : Nat, j ≤ K ∧ i = .int .i64 j ∧ e1 = .int .i64 ((e + j) % m : Nat) ∧ f1 = .int .i64 (min (f + j) m : Nat) ∧ p1 = .int .i64 (p + j : Nat) ∧ Hid (St4 w wr w.heap.size go (Ring.rep l e dist K) (Ring.rep l e dist j)))
      (fun _ _ _ i _ => K - (intOf i).toNat)
    case atStart =>
      refine ⟨0, Nat.zero_le _, rfl, ?_, ?_, rfl, HT4⟩
      · rw [Nat.add_zero, Nat.mod_eq_of_lt he]
      · rw [Nat.add_zero, Nat.min_eq_left hf]
    case round =>
      clear HT4
      obtain ⟨j, hj, rfl, rfl, rfl, rfl, HT⟩ := hrel
      by_cases hlt : j < K
      · have hT := HT.out
        have hlen := Ring.rep_length l e dist j
        rw [HL.out] at hlen
        have hem : (e + j) % m < m := Nat.mod_lt _ (by omega)
        have hbk : Ring.back m dist ((e + j) % m) < m := Ring.back_lt hem hd
        have cS : wr.cell? ⟨go, Ring.back m dist ((e + j) % m), none⟩ = some (.int .u8 ((Ring.rep l e dist j).getD (Ring.back m dist ((e + j) % m)) 0)) := by
          rw [cell_of_row _ _ _ _ _ _ hT.by']; exact cells_at _ _ (by rw [hlen]; exact hbk)
        have hz2 := zzput_any wr go (Ring.rep l e dist j) ((e + j) % m) (min (f + j) m) ((p + j : Nat) : Int) ((Ring.rep l e dist j).getD (Ring.back m dist ((e + j) % m)) 0) hT.by' (by rw [hlen]; exact hem) (by rw [hlen]; omega) (by rw [hlen]; exact h1)
        rw [hlen] at hz2
        have HZ := hide hz2
        have E1 : Hid (nextE m ((e + j) % m) = (e + (j + 1)) % m) := Ring.next_mod (by omega)
        have E2 : Hid (nextF m (min (f + j) m) = min (f + (j + 1)) m) := Ring.next_min
        have E3 : Hid (wrap64 (((p + j : Nat) : Int) + 1) = ((p + (j + 1) : Nat) : Int)) := by show _ = _; unfold wrap64; omega
        have E4 : Hid ((Ring.rep l e dist j).set ((e + j) % m) ((Ring.rep l e dist j).getD (Ring.back m dist ((e + j) % m)) 0) = Ring.rep l e dist (j + 1)) := by
          show _ = (Ring.rep l e dist j).set ((e + j) % l.length) ((Ring.rep l e dist j).getD (Ring.back l.length dist ((e + j) % l.length)) 0); rw [HL.out]
        have hbb : (dist ≤ (e + j) % m ∧ (((e + j) % m : Nat) : Int) - (dist : Int) = (Ring.back m dist ((e + j) % m) : Nat)) ∨ (¬ dist ≤ (e + j) % m ∧ (((e + j) % m : Nat) : Int) - (dist : Int) + (m : Int) = (Ring.back m dist ((e + j) % m) : Nat)) := by
          by_cases hc : dist ≤ (e + j) % m
          · left; unfold Ring.back; rw [if_pos hc]; omega
          · right; unfold Ring.back; rw [if_neg hc]; omega
        clear hz2 hT hlen
        generalize (Ring.rep l e dist j).getD (Ring.back m dist ((e + j) % m)) 0 = sb at *
        generalize Ring.back m dist ((e + j) % m) = F at *
        generalize (e + j) % m = ek at *
        generalize min (f + j) m = fk at *
        generalize p + j = pk at *
        rcases hbb with ⟨hc, hF⟩ | ⟨hc, hF⟩
        all_goals
          go_wp2_with (go_at_call 10; refine HZ.out.mono ?_; rintro r w5 ⟨rfl, hB5, hg5⟩)
          go_roundw
          case rel =>
            refine ⟨j + 1, by omega, by go_num, by rw [E1.out], by rw [E2.out], by rw [E3.out], ?_⟩
            rw [E4.out] at hB5
            exact hide (HT.out.put hB5 hg5)
          case measure => simp [intOf]; omega
      · obtain rfl : j = K := by omega
        have hT := HT.out
        have heq := equal_any wr w.heap.size go (Ring.rep l e dist j) hT.buf hT.by' m (by rw [Ring.rep_length]; exact HL.out) h1
        have HE := hide heq
        have HB := hide hT.below
        clear heq hT HT
        go_wp2_with (go_at_call 13; refine HE.out.mono ?_; rintro r w6 ⟨rfl, q6, rfl⟩)
        go_ret
        exact ⟨rfl, below_drewN HB.out q6⟩

theorem all4 (w : World) (a : Option Addr) (m c : Nat) (l : List Int) (e f p d n : Int) (hs : Src w a m c l) (h1 : m ≤ maxLen) (hn : n ≤ 9223372036854775807) :
    Calls Try.prog 4 #[.slice a m c, .int .i64 e, .int .i64 f, .int .i64 p, .int .i64 d, .int .i64 n] w fun r w' => r = .returned (.bool true) ∧ Below w.heap.size w w' := by
  by_cases h : Ok5 m e f p d n
  · obtain ⟨g1, g2, g3, g4, g5, g6, g7, g8, g9, g10, g11⟩ := h
    obtain ⟨e, rfl⟩ := Int.eq_ofNat_of_zero_le g3
    obtain ⟨f, rfl⟩ := Int.eq_ofNat_of_zero_le g5
    obtain ⟨p, rfl⟩ := Int.eq_ofNat_of_zero_le g7
    obtain ⟨d, rfl⟩ := Int.eq_ofNat_of_zero_le (show 0 ≤ d by omega)
    obtain ⟨n, rfl⟩ := Int.eq_ofNat_of_zero_le g11
    exact main4 w a m c l e f p d n hs g1 (by omega) (by omega) (by omega) (by omega) (by omega) (by unfold maxLen; omega)
  · exact early4 w a m c e f p d n h1 h
end Go.Proofs.Qxb6602659a.Win
